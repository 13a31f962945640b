/-
  The proof of 'Rows.FnHitRateOrderAndScaleSaid': the shell's frame, the walk filled in.
-/
import Derived.Test.Qxb6003619aHitWalk
import Derived.WalkKit
import Derived.Below
import Derived.ProofKit
import Derived.OpenShut
import Derived.ShutString
namespace Go.Proofs.Qxb6003619a.fnHitRateOrderAndScale
open Go.ChangeShapes Go.WideShapes Go.ChangeAt Go.RowKit
open Go.ChangeMaps (open_string shut_string)
set_option linter.unusedVariables false      -- a walk need not use every 'w<i>' (that an integer argument fits its kind)

theorem own : ownKnob Try.prog.godebug = none := by kernel_rfl

/-! ### the walk, over all inputs -/
theorem early (a0 a1 a2 a3 a4 a5 a6 : Int) (w : World)
    (h : 1099511627776 < a0 ∨ (a0 ≤ 1099511627776 ∧ 1099511627776 < a1) ∨ (a0 ≤ 1099511627776 ∧ a1 ≤ 1099511627776 ∧ a6 < 1) ∨ (a0 ≤ 1099511627776 ∧ a1 ≤ 1099511627776 ∧ 1 ≤ a6 ∧ 4096 < a6)) :
    Calls Try.prog 4 #[.int .u64 a0, .int .u64 a1, .int .u64 a2, .int .u64 a3, .int .u64 a4, .int .i64 a5, .int .u64 a6] w fun e w' => e = .returned (.bool true) ∧ Below w.heap.size w w' := by
  rcases h with h | ⟨h, h'⟩ | ⟨h, h', h2⟩ | ⟨h, h', h2, h3⟩
  all_goals
    go_enter Try.func4, Try.ntmps4
    go_wp2
    go_ret
    exact ⟨rfl, Below.refl _ _⟩

theorem main (h m k : Nat) (a2 a3 a4 a5 : Int) (w : World) (hh : h ≤ 1099511627776) (hm : m ≤ 1099511627776) (k1 : 1 ≤ k) (k2 : k ≤ 4096) :
    Calls Try.prog 4 #[.int .u64 (h : Int), .int .u64 (m : Int), .int .u64 a2, .int .u64 a3, .int .u64 a4, .int .i64 a5, .int .u64 (k : Int)] w fun e w' => e = .returned (.bool true) ∧ Below w.heap.size w w' := by
  obtain ⟨r, p, o0, o1, oh, op, ⟨tr, ts, tp, t1, t2, t3, t4, t5⟩, hop, hU⟩ := told h m k (by omega) k1 k2
  have hsum := sums k2 hh hm
  have w1 := wrap_mul k2 hh
  have w2 := wrap_mul k2 hm
  have w3 : (h : Int) + 1 = ((h + 1 : Nat) : Int) := by omega
  have hs1 : h + m ≤ 9007199254740992 := by omega
  have hs3 : h + 1 + m ≤ 9007199254740992 := by omega
  have y0 : h = 0 → ((h : Int) == 0) = true := fun z => by simp [z]
  have n0 : 0 < h → ((h : Int) == 0) = false := fun z => by simp; omega
  have y1 : m = 0 → ((m : Int) == 0) = true := fun z => by simp [z]
  have n1 : 0 < m → ((m : Int) == 0) = false := fun z => by simp; omega
  have y2 : h = m → ((h : Int) == (m : Int)) = true := fun z => by simp [z]
  have n2 : h ≠ m → ((h : Int) == (m : Int)) = false := fun z => by simp; omega
  rcases hU with ⟨u0, u1, rfl⟩ | ⟨u0, u1, rfl, rfl, rfl⟩ | ⟨u0, u1, rfl, rfl, rfl⟩ | ⟨u0, u1, u2, rfl, rfl, rfl⟩ | ⟨u0, u1, u2, rfl, rfl, rfl⟩ | ⟨u0, u1, u2, rfl, rfl, rfl⟩
  · exact hit_zero h m k r p (k * h) (k * m) (h + 1) a2 a3 a4 a5 op w hh hm k1 k2 tr ts tp hs1 hsum hs3 w1 w2 w3 t1 t2 t5 hop (y0 u0) (y1 u1)
  · exact hit_none h m k r p (k * h) (k * m) (h + 1) a2 a3 a4 a5 op w hh hm k1 k2 tr ts tp hs1 hsum hs3 w1 w2 w3 t1 t2 t3 t4 t5 hop (y0 u0) (n1 u1) (n2 (by omega)) (by omega)
  · exact hit_all h m k r p (k * h) (k * m) (h + 1) a2 a3 a4 a5 op w hh hm k1 k2 tr ts tp hs1 hsum hs3 w1 w2 w3 t1 t2 t3 t4 t5 hop (n0 u0) (y1 u1) (n2 (by omega)) (by omega)
  · exact hit_low h m k r p (k * h) (k * m) (h + 1) a2 a3 a4 a5 op w hh hm k1 k2 tr ts tp hs1 hsum hs3 w1 w2 w3 t1 t2 t3 t4 t5 hop (n0 u0) (n1 u1) (n2 (by omega)) (by omega)
  · exact hit_mid h m k r p (k * h) (k * m) (h + 1) a2 a3 a4 a5 op w hh hm k1 k2 tr ts tp hs1 hsum hs3 w1 w2 w3 t1 t2 t3 t4 t5 hop (n0 u0) (n1 u1) (y2 u2) (by omega)
  · exact hit_high h m k r p (k * h) (k * m) (h + 1) a2 a3 a4 a5 op w hh hm k1 k2 tr ts tp hs1 hsum hs3 w1 w2 w3 t1 t2 t3 t4 t5 hop (n0 u0) (n1 u1) (n2 (by omega)) (by omega)

theorem walk (a0 : Int) (a1 : Int) (a2 : Int) (a3 : Int) (a4 : Int) (a5 : Int) (a6 : Int) (w0 : (Lit.int .u64 a0).wf = true) (w1 : (Lit.int .u64 a1).wf = true) (w6 : (Lit.int .u64 a6).wf = true) (w : World) :
    Calls Try.prog 4 #[.int .u64 a0, .int .u64 a1, .int .u64 a2, .int .u64 a3, .int .u64 a4, .int .i64 a5, .int .u64 a6] w fun e w' => e = .returned (.bool true) ∧ Below w.heap.size w w' := by
  have b0 := bounds_u64 w0
  have b1 := bounds_u64 w1
  have b6 := bounds_u64 w6
  by_cases he : 1099511627776 < a0 ∨ (a0 ≤ 1099511627776 ∧ 1099511627776 < a1) ∨ (a0 ≤ 1099511627776 ∧ a1 ≤ 1099511627776 ∧ a6 < 1) ∨ (a0 ≤ 1099511627776 ∧ a1 ≤ 1099511627776 ∧ 1 ≤ a6 ∧ 4096 < a6)
  · exact early a0 a1 a2 a3 a4 a5 a6 w he
  obtain ⟨h, rfl⟩ : ∃ h : Nat, a0 = h := ⟨a0.toNat, by omega⟩
  obtain ⟨m, rfl⟩ : ∃ m : Nat, a1 = m := ⟨a1.toNat, by omega⟩
  obtain ⟨k, rfl⟩ : ∃ k : Nat, a6 = k := ⟨a6.toNat, by omega⟩
  exact main h m k a2 a3 a4 a5 w (by omega) (by omega) (by omega) (by omega)

/-! ### the row's step -/
set_option maxRecDepth 100000 in
theorem lifted (os : Os) (started : os.Started) (H : Type) (enc : TypeId × Value → H) :
    ReturnsInHanded {} Try.checked os 4 .any (Rows.fnHitRateOrderAndScaleSpec.pre6 enc Try.prog Try.f4 Rows.fnHitRateOrderAndScaleRow.domain false) (Rows.fnHitRateOrderAndScaleSpec.post enc Try.prog Try.f4 false true false false) := by
  refine returnsInHanded_of_change (C := Try.checked) own started (by kernel_rfl) Try.func4
    (ChangeSpec.witness6 (enc := enc) (C := Try.checked) false ⟨#[], #[.int .u64 0, .int .u64 0, .int .u64 0, .int .u64 0, .int .u64 0, .int .i64 0, .int .u64 0], []⟩ 8 (by kernel_rfl) (by kernel_rfl) (by kernel_rfl) (by kernel_rfl)) ?_
  intro W base args ds gs before hval0 hW hcnd _
  have hval : ∀ (j : Nat) t v, Try.f4.params[j]? = some t → args[j]? = some v → Value.okWide Try.prog W .any base t v := hval0
  have hW' := hW
  obtain ⟨p, q, hA0, hV, rfl, hfz, hnd⟩ := hW
  have hA : DataW.TrodAll enc Try.prog W 0 (fun _ => true) true Try.f4.params.toList args.toList ds p := hA0
  rw [Try.params4] at hA hval
  obtain ⟨v0, vs0, d0, ds0, p0, q0, hargs, rfl, rfl, h0, r0⟩ := trodAll_cons hA
  obtain ⟨v1, vs1, d1, ds1, p1, q1, rfl, rfl, rfl, h1, r1⟩ := trodAll_cons r0
  obtain ⟨v2, vs2, d2, ds2, p2, q2, rfl, rfl, rfl, h2, r2⟩ := trodAll_cons r1
  obtain ⟨v3, vs3, d3, ds3, p3, q3, rfl, rfl, rfl, h3, r3⟩ := trodAll_cons r2
  obtain ⟨v4, vs4, d4, ds4, p4, q4, rfl, rfl, rfl, h4, r4⟩ := trodAll_cons r3
  obtain ⟨v5, vs5, d5, ds5, p5, q5, rfl, rfl, rfl, h5, r5⟩ := trodAll_cons r4
  obtain ⟨v6, vs6, d6, ds6, p6, q6, rfl, rfl, rfl, h6, r6⟩ := trodAll_cons r5
  obtain ⟨rfl, rfl, rfl⟩ := trodAll_nil r6
  obtain rfl : args = #[v0, v1, v2, v3, v4, v5, v6] := by cases args; simp_all
  obtain ⟨rfl, rfl⟩ := trodVars_none hV
  obtain ⟨a0, rfl, rfl, rfl, w0⟩ := open_int Try.underlying27 (hval 0 27 v0 rfl rfl) h0
  obtain ⟨a1, rfl, rfl, rfl, w1⟩ := open_int Try.underlying27 (hval 1 27 v1 rfl rfl) h1
  obtain ⟨a2, rfl, rfl, rfl, w2⟩ := open_int Try.underlying27 (hval 2 27 v2 rfl rfl) h2
  obtain ⟨a3, rfl, rfl, rfl, w3⟩ := open_int Try.underlying27 (hval 3 27 v3 rfl rfl) h3
  obtain ⟨a4, rfl, rfl, rfl, w4⟩ := open_int Try.underlying27 (hval 4 27 v4 rfl rfl) h4
  obtain ⟨a5, rfl, rfl, rfl, w5⟩ := open_int Try.underlying2 (hval 5 2 v5 rfl rfl) h5
  obtain ⟨a6, rfl, rfl, rfl, w6⟩ := open_int Try.underlying27 (hval 6 27 v6 rfl rfl) h6
  clear hA0 hval0
  refine (walk a0 a1 a2 a3 a4 a5 a6 w0 w1 w6 W).mono fun e W' ⟨he, bel⟩ => ?_
  subst he
  exact ⟨_, rfl, _, _, _, [], _, [], hW', trodAll_mk1 (shut_bool Try.underlying4 _), (trodAll_cons_mk (shut_int Try.underlying27 w0) (trodAll_cons_mk (shut_int Try.underlying27 w1) (trodAll_cons_mk (shut_int Try.underlying27 w2) (trodAll_cons_mk (shut_int Try.underlying27 w3) (trodAll_cons_mk (shut_int Try.underlying27 w4) (trodAll_cons_mk (shut_int Try.underlying2 w5) (trodAll_cons_mk (shut_int Try.underlying27 w6) trodAll_mk0))))))), rfl, bel.frame _, fun h => by cases h⟩

theorem over : Rows.fnHitRateOrderAndScaleRow.holds Try.pinned (OpenSpec.ofChange Rows.fnHitRateOrderAndScaleSpec) :=
  OpenClaim.holds_of_wide 4 Try.f4 rfl rfl rfl rfl rfl rfl rfl ⟨rfl, rfl, rfl, rfl, rfl⟩ rfl rfl rfl rfl rfl (by kernel_rfl) Try.func4 (by kernel_rfl)
    (of_decide_eq_true (by kernel_rfl)) (by unfold Func.isWrapper; first | (rw [if_pos (by decide +kernel)]; kernel_rfl) | (rw [if_neg (by decide +kernel)]; exact ⟨rfl, rfl⟩))
    (fun os started H enc _ => lifted os started H enc)

/-- THE STATEMENT -/
theorem proved : Rows.FnHitRateOrderAndScaleSaid :=
  over
end Go.Proofs.Qxb6003619a.fnHitRateOrderAndScale
