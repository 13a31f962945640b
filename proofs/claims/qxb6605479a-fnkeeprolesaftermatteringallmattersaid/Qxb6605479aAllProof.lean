/-
  The proof of 'Rows.FnKeepRolesAfterMatteringAllMatterSaid': the row's frame round the walk.
-/
import Derived.Test.Qxb6605479aAllA
import Derived.Test.Qxb6605479aAllB
import Derived.Test.Qxb6605479aOpenS
import Derived.WalkKit
import Derived.ProofKit
import Derived.OpenShut
import Derived.ShutString
import Derived.ChangeOld
import Derived.Below
namespace Go.Proofs.Qxb6605479a.fnKeepRolesAfterMatteringAllMatter
open Go.ChangeShapes Go.WideShapes Go.ChangeAt Go.RowKit
set_option linter.unusedVariables false

theorem own : ownKnob Try.prog.godebug = none := by kernel_rfl
theorem laidOut : laidOutB Try.prog = true := by kernel_rfl

/-! ### the walk, over all inputs -/
theorem walk (a0 a1 a2 a3 a4 a6 a7 : Option Addr) (n0 c0 n1 c1 n2 c2 n3 c3 c4 : Nat) (goal : Int) (c6 n7 c7 : Nat) (s0 s1 : Nat → ByteArray) (f2 g2 f3 g3 f7 g7 : Nat → Int) (D4 D6 : Rules) (w : World)
    (m0 : n0 ≤ maxLen) (m1 : n1 ≤ maxLen) (m2 : n2 ≤ maxLen) (m3 : n3 ≤ maxLen) (m4 : D4.n ≤ maxLen) (m6 : D6.n ≤ maxLen) (m7 : n7 ≤ maxLen)
    (z0 : Nil a0 n0 c0) (z1 : Nil a1 n1 c1) (z2 : Nil a2 n2 c2) (z3 : Nil a3 n3 c3) (z4 : Nil a4 D4.n c4) (z6 : Nil a6 D6.n c6) (z7 : Nil a7 n7 c7)
    (h7 : Seven w w a0 a1 a2 a3 a4 a6 a7 n0 n1 n2 n3 n7 s0 s1 f2 g2 f3 g3 f7 g7 D4 D6) :
    Calls Try.prog 8 #[.slice a0 n0 c0, .slice a1 n1 c1, .slice a2 n2 c2, .slice a3 n3 c3, .slice a4 D4.n c4, .int .i64 goal, .slice a6 D6.n c6, .slice a7 n7 c7] w fun e w' => e = .returned (.bool true) ∧ Below w.heap.size w w' := by
  by_cases hl : n0 ≤ 65536 ∧ n1 ≤ 65536 ∧ n2 ≤ 65536 ∧ n3 ≤ 65536 ∧ D4.n ≤ 65536 ∧ D6.n ≤ 65536 ∧ n7 ≤ 65536
  · obtain ⟨l0, l1, l2, l3, l4, l6, l7⟩ := hl
    exact all_main a0 a1 a2 a3 a4 a6 a7 n0 c0 n1 c1 n2 c2 n3 c3 c4 goal c6 n7 c7 s0 s1 f2 g2 f3 g3 f7 g7 D4 D6 w z0 z1 z2 z3 z4 z6 z7 h7 l0 l1 l2 l3 l4 l6 l7
  · exact all_early a0 a1 a2 a3 a4 a6 a7 n0 c0 n1 c1 n2 c2 n3 c3 c4 goal c6 n7 c7 s0 s1 D4 D6 w m0 m1 m2 m3 m4 m6 m7 h7.1 h7.2.1 h7.2.2.2.2.1 h7.2.2.2.2.2.1 (by omega)

/-! ### the row's step -/
set_option maxRecDepth 100000 in
set_option maxHeartbeats 1000000 in
theorem lifted (os : Os) (started : os.Started) (H : Type) (enc : TypeId × Value → H) :
    ReturnsInHanded {} Try.checked os 8 .any (Rows.fnKeepRolesAfterMatteringAllMatterSpec.pre6 enc Try.prog Try.f8 Rows.fnKeepRolesAfterMatteringAllMatterRow.domain false) (Rows.fnKeepRolesAfterMatteringAllMatterSpec.post enc Try.prog Try.f8 false true false false) := by
  refine returnsInHanded_of_change (C := Try.checked) own started (by kernel_rfl) Try.func8
    (ChangeSpec.witness6 (enc := enc) (C := Try.checked) false ⟨#[], #[.slice none 0 0, .slice none 0 0, .slice none 0 0, .slice none 0 0, .slice none 0 0, .int .i64 0, .slice none 0 0, .slice none 0 0], []⟩ 8 (by kernel_rfl) (by kernel_rfl) (by kernel_rfl) (by kernel_rfl)) ?_
  intro W base args ds gs before hval0 hW hcnd _
  have hval : ∀ (j : Nat) t v, Try.f8.params[j]? = some t → args[j]? = some v → Value.okWide Try.prog W .any base t v := hval0
  have hW' := hW
  obtain ⟨p, q, hA0, hV, rfl, hfz, hnd⟩ := hW
  have hA : DataW.TrodAll enc Try.prog W 0 (fun _ => true) true Try.f8.params.toList args.toList ds p := hA0
  rw [Try.params8] at hA hval
  obtain ⟨v0, vs0, d0, ds0, p0, q0, hargs, rfl, rfl, h0, r0⟩ := trodAll_cons hA
  obtain ⟨v1, vs1, d1, ds1, p1, q1, rfl, rfl, rfl, h1, r1⟩ := trodAll_cons r0
  obtain ⟨v2, vs2, d2, ds2, p2, q2, rfl, rfl, rfl, h2, r2⟩ := trodAll_cons r1
  obtain ⟨v3, vs3, d3, ds3, p3, q3, rfl, rfl, rfl, h3, r3⟩ := trodAll_cons r2
  obtain ⟨v4, vs4, d4, ds4, p4, q4, rfl, rfl, rfl, h4, r4⟩ := trodAll_cons r3
  obtain ⟨v5, vs5, d5, ds5, p5, q5, rfl, rfl, rfl, h5, r5⟩ := trodAll_cons r4
  obtain ⟨v6, vs6, d6, ds6, p6, q6, rfl, rfl, rfl, h6, r6⟩ := trodAll_cons r5
  obtain ⟨v7, vs7, d7, ds7, p7, q7, rfl, rfl, rfl, h7, r7⟩ := trodAll_cons r6
  obtain ⟨rfl, rfl, rfl⟩ := trodAll_nil r7
  obtain rfl : args = #[v0, v1, v2, v3, v4, v5, v6, v7] := by cases args; simp_all
  obtain ⟨rfl, rfl⟩ := trodVars_none hV
  obtain ⟨a0, len0, cap0, rfl⟩ := okWide_slice Try.underlying51 (hval 0 51 v0 rfl rfl)
  have k0 := h0
  have lt0 : ∀ x ∈ p0, x.block < W.heap.size := by obtain ⟨m, hm⟩ := k0; exact DataW.trod_lt m _ _ _ hm
  obtain ⟨f0, n0, m0, s0⟩ : ∃ f, (a0 = none → len0 = 0 ∧ cap0 = 0) ∧ len0 ≤ maxLen ∧ StrsAt W.heap.size W a0 len0 f := by
    obtain ⟨fuel, hf⟩ := h0
    exact strs_open (by simpa [Value.cells] using hf)
  obtain ⟨a1, len1, cap1, rfl⟩ := okWide_slice Try.underlying51 (hval 1 51 v1 rfl rfl)
  have k1 := h1
  have lt1 : ∀ x ∈ p1, x.block < W.heap.size := by obtain ⟨m, hm⟩ := k1; exact DataW.trod_lt m _ _ _ hm
  obtain ⟨f1, n1, m1, s1⟩ : ∃ f, (a1 = none → len1 = 0 ∧ cap1 = 0) ∧ len1 ≤ maxLen ∧ StrsAt W.heap.size W a1 len1 f := by
    obtain ⟨fuel, hf⟩ := h1
    exact strs_open (by simpa [Value.cells] using hf)
  obtain ⟨a2, len2, cap2, rfl⟩ := okWide_slice Try.underlying52 (hval 2 52 v2 rfl rfl)
  have k2 := h2
  have lt2 : ∀ x ∈ p2, x.block < W.heap.size := by obtain ⟨m, hm⟩ := k2; exact DataW.trod_lt m _ _ _ hm
  obtain ⟨f2, g2, n2, m2, s2⟩ : ∃ f g, (a2 = none → len2 = 0 ∧ cap2 = 0) ∧ len2 ≤ maxLen ∧ PairsAt W.heap.size W a2 len2 f g := by
    obtain ⟨fuel, hf⟩ := h2
    exact pairs_open Try.underlying52 Try.underlying67 Try.cells67 rfl rfl rfl rfl (by simpa [Value.cells] using hf)
  obtain ⟨a3, len3, cap3, rfl⟩ := okWide_slice Try.underlying38 (hval 3 38 v3 rfl rfl)
  have k3 := h3
  have lt3 : ∀ x ∈ p3, x.block < W.heap.size := by obtain ⟨m, hm⟩ := k3; exact DataW.trod_lt m _ _ _ hm
  obtain ⟨f3, g3, n3, m3, s3⟩ : ∃ f g, (a3 = none → len3 = 0 ∧ cap3 = 0) ∧ len3 ≤ maxLen ∧ PairsAt W.heap.size W a3 len3 f g := by
    obtain ⟨fuel, hf⟩ := h3
    exact pairs_open Try.underlying38 Try.underlying50 Try.cells50 rfl rfl rfl rfl (by simpa [Value.cells] using hf)
  obtain ⟨a4, len4, cap4, rfl⟩ := okWide_slice Try.underlying22 (hval 4 22 v4 rfl rfl)
  have k4 := h4
  have lt4 : ∀ x ∈ p4, x.block < W.heap.size := by obtain ⟨m, hm⟩ := k4; exact DataW.trod_lt m _ _ _ hm
  obtain ⟨D4, e4, n4, m4, s4⟩ : ∃ D : Rules, D.n = len4 ∧ (a4 = none → len4 = 0 ∧ cap4 = 0) ∧ len4 ≤ maxLen ∧ CAat W.heap.size W a4 D := by
    obtain ⟨fuel, hf⟩ := h4
    exact ca_open (by simpa [Value.cells] using hf)
  subst e4
  obtain ⟨x5, rfl, rfl, rfl, w5⟩ := open_int Try.underlying3 (hval 5 3 v5 rfl rfl) h5
  obtain ⟨a6, len6, cap6, rfl⟩ := okWide_slice Try.underlying22 (hval 6 22 v6 rfl rfl)
  have k6 := h6
  have lt6 : ∀ x ∈ p6, x.block < W.heap.size := by obtain ⟨m, hm⟩ := k6; exact DataW.trod_lt m _ _ _ hm
  obtain ⟨D6, e6, n6, m6, s6⟩ : ∃ D : Rules, D.n = len6 ∧ (a6 = none → len6 = 0 ∧ cap6 = 0) ∧ len6 ≤ maxLen ∧ CAat W.heap.size W a6 D := by
    obtain ⟨fuel, hf⟩ := h6
    exact ca_open (by simpa [Value.cells] using hf)
  subst e6
  obtain ⟨a7, len7, cap7, rfl⟩ := okWide_slice Try.underlying38 (hval 7 38 v7 rfl rfl)
  have k7 := h7
  have lt7 : ∀ x ∈ p7, x.block < W.heap.size := by obtain ⟨m, hm⟩ := k7; exact DataW.trod_lt m _ _ _ hm
  obtain ⟨f7, g7, n7, m7, s7⟩ : ∃ f g, (a7 = none → len7 = 0 ∧ cap7 = 0) ∧ len7 ≤ maxLen ∧ PairsAt W.heap.size W a7 len7 f g := by
    obtain ⟨fuel, hf⟩ := h7
    exact pairs_open Try.underlying38 Try.underlying50 Try.cells50 rfl rfl rfl rfl (by simpa [Value.cells] using hf)
  clear hA0 hval0
  refine (walk a0 a1 a2 a3 a4 a6 a7 len0 cap0 len1 cap1 len2 cap2 len3 cap3 cap4 x5 cap6 len7 cap7 f0 f1 f2 g2 f3 g3 f7 g7 D4 D6 W m0 m1 m2 m3 m4 m6 m7 n0 n1 n2 n3 n4 n6 n7 ⟨s0, s1, s2, s3, s4, s6, s7, Below.refl _ _⟩).mono fun e W' ⟨he, bel⟩ => ?_
  subst he
  exact ⟨_, rfl, _, _, _, [], _, [], hW', trodAll_mk1 (shut_bool Try.underlying4 _), (trodAll_cons_mk (Below.trod laidOut (by kernel_rfl) (of_decide_eq_true (by kernel_rfl)) k0 bel lt0) (trodAll_cons_mk (Below.trod laidOut (by kernel_rfl) (of_decide_eq_true (by kernel_rfl)) k1 bel lt1) (trodAll_cons_mk (Below.trod laidOut (by kernel_rfl) (of_decide_eq_true (by kernel_rfl)) k2 bel lt2) (trodAll_cons_mk (Below.trod laidOut (by kernel_rfl) (of_decide_eq_true (by kernel_rfl)) k3 bel lt3) (trodAll_cons_mk (Below.trod laidOut (by kernel_rfl) (of_decide_eq_true (by kernel_rfl)) k4 bel lt4) (trodAll_cons_mk (shut_int Try.underlying3 w5) (trodAll_cons_mk (Below.trod laidOut (by kernel_rfl) (of_decide_eq_true (by kernel_rfl)) k6 bel lt6) (trodAll_cons_mk (Below.trod laidOut (by kernel_rfl) (of_decide_eq_true (by kernel_rfl)) k7 bel lt7) trodAll_mk0)))))))), rfl, bel.frame _, fun h => by cases h⟩

theorem over : Rows.fnKeepRolesAfterMatteringAllMatterRow.holds Try.pinned (OpenSpec.ofChange Rows.fnKeepRolesAfterMatteringAllMatterSpec) :=
  OpenClaim.holds_of_wide 8 Try.f8 rfl rfl rfl rfl rfl rfl rfl ⟨rfl, rfl, rfl, rfl, rfl⟩ rfl rfl rfl rfl rfl (by kernel_rfl) Try.func8 (by kernel_rfl)
    (of_decide_eq_true (by kernel_rfl)) (by unfold Func.isWrapper; first | (rw [if_pos (by decide +kernel)]; kernel_rfl) | (rw [if_neg (by decide +kernel)]; exact ⟨rfl, rfl⟩))
    (fun os started H enc _ => lifted os started H enc)

/-- THE STATEMENT -/
theorem proved : Rows.FnKeepRolesAfterMatteringAllMatterSaid := over
end Go.Proofs.Qxb6605479a.fnKeepRolesAfterMatteringAllMatter
