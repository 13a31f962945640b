/-
  The proof of 'Rows.FnMatteringClosedJustifiedOrderFreeSaid': the row's frame round the walk.
-/
import Derived.Test.Qxb6605479aJust
import Derived.Test.Qxb6605479aOpen
import Derived.WalkKit
import Derived.ProofKit
import Derived.OpenShut
import Derived.ShutString
import Derived.ChangeOld
import Derived.Below
namespace Go.Proofs.Qxb6605479a.fnMatteringClosedJustifiedOrderFree
open Go.ChangeShapes Go.WideShapes Go.ChangeAt Go.RowKit
set_option linter.unusedVariables false

theorem own : ownKnob Try.prog.godebug = none := by kernel_rfl
theorem laidOut : laidOutB Try.prog = true := by kernel_rfl

/-! ### the walk, over all inputs -/
theorem walk (goal roles : Int) (a0 : Option Addr) (cap0 : Nat) (D : Rules) (a1 : Option Addr) (len1 cap1 : Nat) (f g : Nat → Int) (w : World) (n0 : a0 = none → D.n = 0 ∧ cap0 = 0) (m0 : D.n ≤ maxLen) (r0 : CAat w.heap.size w a0 D)
    (n1 : a1 = none → len1 = 0 ∧ cap1 = 0) (m1 : len1 ≤ maxLen) (r1 : PairsAt w.heap.size w a1 len1 f g) :
    Calls Try.prog 6 #[.int .i64 goal, .int .i64 roles, .slice a0 D.n cap0, .slice a1 len1 cap1] w fun e w' => e = .returned (.bool true) ∧ Below w.heap.size w w' := by
  by_cases early : 65536 < D.n ∨ (D.n ≤ 65536 ∧ 65536 < len1) ∨ (D.n ≤ 65536 ∧ len1 ≤ 65536 ∧ roles < 1) ∨ (D.n ≤ 65536 ∧ len1 ≤ 65536 ∧ 1 ≤ roles ∧ 65536 < roles)
  · exact just_early goal roles a0 cap0 D a1 len1 cap1 w m0 m1 r0 early
  obtain ⟨R, rfl⟩ : ∃ R : Nat, roles = R := ⟨roles.toNat, by omega⟩
  by_cases hg : inR goal R = true
  · have hb := inR_true hg
    obtain ⟨G, rfl⟩ : ∃ G : Nat, goal = G := ⟨goal.toNat, by omega⟩
    exact just_main G R a0 cap0 D a1 len1 cap1 f g w n0 n1 r0 r1 (by omega) (by omega) (by omega) (by omega) (by omega)
  · exact just_goal goal R a0 cap0 D a1 len1 cap1 w r0 (by omega) (by omega) (by omega) (by omega) (by simpa using hg)

/-! ### the row's step -/
set_option maxRecDepth 100000 in
theorem lifted (os : Os) (started : os.Started) (H : Type) (enc : TypeId × Value → H) :
    ReturnsInHanded {} Try.checked os 6 .any (Rows.fnMatteringClosedJustifiedOrderFreeSpec.pre6 enc Try.prog Try.f6 Rows.fnMatteringClosedJustifiedOrderFreeRow.domain false) (Rows.fnMatteringClosedJustifiedOrderFreeSpec.post enc Try.prog Try.f6 false true false false) := by
  refine returnsInHanded_of_change (C := Try.checked) own started (by kernel_rfl) Try.func6
    (ChangeSpec.witness6 (enc := enc) (C := Try.checked) false ⟨#[], #[.int .i64 0, .int .i64 0, .slice none 0 0, .slice none 0 0], []⟩ 8 (by kernel_rfl) (by kernel_rfl) (by kernel_rfl) (by kernel_rfl)) ?_
  intro W base args ds gs before hval0 hW hcnd _
  have hval : ∀ (j : Nat) t v, Try.f6.params[j]? = some t → args[j]? = some v → Value.okWide Try.prog W .any base t v := hval0
  have hW' := hW
  obtain ⟨p, q, hA0, hV, rfl, hfz, hnd⟩ := hW
  have hA : DataW.TrodAll enc Try.prog W 0 (fun _ => true) true Try.f6.params.toList args.toList ds p := hA0
  rw [Try.params6] at hA hval
  obtain ⟨v0, vs0, d0, ds0, p0, q0, hargs, rfl, rfl, h0, r0⟩ := trodAll_cons hA
  obtain ⟨v1, vs1, d1, ds1, p1, q1, rfl, rfl, rfl, h1, r1⟩ := trodAll_cons r0
  obtain ⟨v2, vs2, d2, ds2, p2, q2, rfl, rfl, rfl, h2, r2⟩ := trodAll_cons r1
  obtain ⟨v3, vs3, d3, ds3, p3, q3, rfl, rfl, rfl, h3, r3⟩ := trodAll_cons r2
  obtain ⟨rfl, rfl, rfl⟩ := trodAll_nil r3
  obtain rfl : args = #[v0, v1, v2, v3] := by cases args; simp_all
  obtain ⟨rfl, rfl⟩ := trodVars_none hV
  obtain ⟨x0, rfl, rfl, rfl, w0⟩ := open_int Try.underlying3 (hval 0 3 v0 rfl rfl) h0
  obtain ⟨x1, rfl, rfl, rfl, w1⟩ := open_int Try.underlying3 (hval 1 3 v1 rfl rfl) h1
  obtain ⟨a2, len2, cap2, rfl⟩ := okWide_slice Try.underlying22 (hval 2 22 v2 rfl rfl)
  have k2 := h2
  have lt2 : ∀ x ∈ p2, x.block < W.heap.size := by obtain ⟨m, hm⟩ := k2; exact DataW.trod_lt m _ _ _ hm
  obtain ⟨D, e2, n2, m2, s2⟩ : ∃ D : Rules, D.n = len2 ∧ (a2 = none → len2 = 0 ∧ cap2 = 0) ∧ len2 ≤ maxLen ∧ CAat W.heap.size W a2 D := by
    obtain ⟨fuel, hf⟩ := h2
    exact ca_open (by simpa [Value.cells] using hf)
  subst e2
  obtain ⟨a3, len3, cap3, rfl⟩ := okWide_slice Try.underlying38 (hval 3 38 v3 rfl rfl)
  have k3 := h3
  have lt3 : ∀ x ∈ p3, x.block < W.heap.size := by obtain ⟨m, hm⟩ := k3; exact DataW.trod_lt m _ _ _ hm
  obtain ⟨f, g, n3, m3, s3⟩ : ∃ f g, (a3 = none → len3 = 0 ∧ cap3 = 0) ∧ len3 ≤ maxLen ∧ PairsAt W.heap.size W a3 len3 f g := by
    obtain ⟨fuel, hf⟩ := h3
    exact pairs_open Try.underlying38 Try.underlying50 Try.cells50 rfl rfl rfl rfl (by simpa [Value.cells] using hf)
  clear hA0 hval0
  refine (walk x0 x1 a2 cap2 D a3 len3 cap3 f g W n2 m2 s2 n3 m3 s3).mono fun e W' ⟨he, bel⟩ => ?_
  subst he
  exact ⟨_, rfl, _, _, _, [], _, [], hW', trodAll_mk1 (shut_bool Try.underlying4 _), (trodAll_cons_mk (shut_int Try.underlying3 w0) (trodAll_cons_mk (shut_int Try.underlying3 w1) (trodAll_cons_mk (Below.trod laidOut (by kernel_rfl) (of_decide_eq_true (by kernel_rfl)) k2 bel lt2) (trodAll_cons_mk (Below.trod laidOut (by kernel_rfl) (of_decide_eq_true (by kernel_rfl)) k3 bel lt3) trodAll_mk0)))), rfl, bel.frame _, fun h => by cases h⟩

theorem over : Rows.fnMatteringClosedJustifiedOrderFreeRow.holds Try.pinned (OpenSpec.ofChange Rows.fnMatteringClosedJustifiedOrderFreeSpec) :=
  OpenClaim.holds_of_wide 6 Try.f6 rfl rfl rfl rfl rfl rfl rfl ⟨rfl, rfl, rfl, rfl, rfl⟩ rfl rfl rfl rfl rfl (by kernel_rfl) Try.func6 (by kernel_rfl)
    (of_decide_eq_true (by kernel_rfl)) (by unfold Func.isWrapper; first | (rw [if_pos (by decide +kernel)]; kernel_rfl) | (rw [if_neg (by decide +kernel)]; exact ⟨rfl, rfl⟩))
    (fun os started H enc _ => lifted os started H enc)

/-- THE STATEMENT -/
theorem proved : Rows.FnMatteringClosedJustifiedOrderFreeSaid := over
end Go.Proofs.Qxb6605479a.fnMatteringClosedJustifiedOrderFree
