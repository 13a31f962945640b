/-
  The walk of FnBloomCompareMirrorAndReflexive.
-/
import Derived.Test.Qxb6605454aCmp
namespace Go.Proofs.Qxb6605454a
open Go.RowKit

theorem cmp_self (f : Nat → Int) (n : Nat) : cmpI f f n = 3 := by
  unfold cmpI
  rw [smB_false (fun j _ => Int.le_refl _)]
  rfl

/-- The two answers on stamps of one length: one of four pairs. -/
theorem cmp_pair (f g : Nat → Int) (n : Nat) : (cmpI f g n = 1 ∧ cmpI g f n = 2) ∨ (cmpI f g n = 2 ∧ cmpI g f n = 1) ∨ (cmpI f g n = 3 ∧ cmpI g f n = 3) ∨ (cmpI f g n = 4 ∧ cmpI g f n = 4) := by
  unfold cmpI
  cases smB f g n <;> cases smB g f n <;> simp [ordI]

theorem mir_early (a0 : Option Addr) (l0 c0 : Nat) (a1 : Option Addr) (l1 c1 : Nat) (w : World) (m0 : l0 ≤ maxLen) (m1 : l1 ≤ maxLen)
    (h : 65536 < l0 ∨ (l0 ≤ 65536 ∧ 65536 < l1)) :
    Calls Try.prog 4 #[.slice a0 l0 c0, .slice a1 l1 c1] w fun e w' => e = .returned (.bool true) ∧ Below w.heap.size w w' := by
  unfold maxLen at m0 m1
  rcases h with h | ⟨h, h'⟩
  all_goals
    go_enter Try.func4, Try.ntmps4
    go_wp2_with (go_at_call 11; refine (bytes11_any _ _ _ _ _ _ (by unfold maxLen; omega) (by unfold maxLen; omega) _).mono ?_; rintro e w' ⟨⟨b, rfl⟩, rfl⟩; cases b)
    all_goals
      go_ret
      exact ⟨rfl, Below.refl _ _⟩

/-- A box laid behind a call. -/
theorem box_mir {X w4 : World} (hb4 : Below X.heap.size X w4) (v : Value) (X5 : World) (hX5 : X5 = w4.alloc (Obj.cells #[v] 27)) :
    Below X.heap.size X X5 ∧ X5.cell? ⟨w4.heap.size, 0, none⟩ = some v ∧ w4.heap.size < X5.heap.size := by
  subst hX5
  exact ⟨hb4.alloc hb4.size _, by simp, by simp⟩

/-- All that the end of the law wants to know of its world, carried over one call. -/
theorem step_mir {w X Y : World} (hb : Below X.heap.size X Y) {a b : Nat} {v0 v1 : Value} {x0 x1 : Option Addr} {k0 k1 : Nat} {f g : Nat → Int}
    (e0 : X.cell? ⟨a, 0, none⟩ = some v0) (e1 : X.cell? ⟨b, 0, none⟩ = some v1) (u0 : a < X.heap.size) (u1 : b < X.heap.size)
    (r0 : RowAt X.heap.size X x0 k0 f) (r1 : RowAt X.heap.size X x1 k1 g) (HW : Below w.heap.size w X) :
    Y.cell? ⟨a, 0, none⟩ = some v0 ∧ Y.cell? ⟨b, 0, none⟩ = some v1 ∧ a < Y.heap.size ∧ b < Y.heap.size ∧
    RowAt Y.heap.size Y x0 k0 f ∧ RowAt Y.heap.size Y x1 k1 g ∧ Below w.heap.size w Y :=
  ⟨(hb.cell (by exact u0)).trans e0, (hb.cell (by exact u1)).trans e1, Nat.lt_of_lt_of_le u0 hb.size, Nat.lt_of_lt_of_le u1 hb.size,
    r0.below hb hb.size, r1.below hb hb.size, HW.trans (hb.mono HW.size)⟩

theorem compare_val (v : Int) (a0 a1 : Option Addr) (l0 c0 l1 c1 : Nat) (f g : Nat → Int) (w : World) (hv : (if l0 = l1 then cmpI f g l0 else 0) = v) (h0 : RowAt w.heap.size w a0 l0 f) (h1 : RowAt w.heap.size w a1 l1 g) (hl : l0 ≤ 65536) (hc1 : l1 ≤ c1) :
    Calls Try.prog 9 #[.agg #[.slice a0 l0 c0], .agg #[.slice a1 l1 c1]] w fun e w' => e = .returned (.int .i64 v) ∧ Below w.heap.size w w' := by
  refine (compare_any _ a0 a1 l0 c0 l1 c1 f g w (Nat.le_refl _) h0 h1 hl hc1).mono ?_
  rintro e w' ⟨rfl, hb⟩
  rw [hv]
  exact ⟨rfl, hb⟩

set_option maxHeartbeats 1000000 in
/-- The walk, the two answers of the mixed calls given as numbers: one of five pairs. -/
theorem mir_main (a0 : Option Addr) (l0 c0 : Nat) (a1 : Option Addr) (l1 c1 : Nat) (f g : Nat → Int) (w : World) (n0 : a0 = none → l0 = 0 ∧ c0 = 0) (n1 : a1 = none → l1 = 0 ∧ c1 = 0)
    (h0 : l0 ≤ 65536) (h1 : l1 ≤ 65536) (r0 : RowAt w.heap.size w a0 l0 f) (r1 : RowAt w.heap.size w a1 l1 g) (v u : Int) (HV : Hid ((if l0 = l1 then cmpI f g l0 else 0) = v)) (HU : Hid ((if l1 = l0 then cmpI g f l1 else 0) = u))
    (hc : (((l0 : Int) != (l1 : Int)) = true ∧ v = 0 ∧ u = 0) ∨ (((l0 : Int) != (l1 : Int)) = false ∧ ((v = 1 ∧ u = 2) ∨ (v = 2 ∧ u = 1) ∨ (v = 3 ∧ u = 3) ∨ (v = 4 ∧ u = 4)))) :
    Calls Try.prog 4 #[.slice a0 l0 c0, .slice a1 l1 c1] w fun e w' => e = .returned (.bool true) ∧ Below w.heap.size w w' := by
  have HC := (show Hid _ from hc)
  clear hc
  go_enter Try.func4, Try.ntmps4
  go_wp2_with fail
  refine (bytes11_any _ _ _ _ _ _ (by unfold maxLen; omega) (by unfold maxLen; omega) _).mono ?_
  rintro e w' ⟨⟨b, rfl⟩, rfl⟩
  cases b
  · go_wp2
    go_ret
    exact ⟨rfl, Below.refl _ _⟩
  go_wp2_with fail
  refine (clone_any _ _ _ f _ n0 r0 h0).mono ?_
  rintro e w1 ⟨x0, rfl, s0, hw1⟩
  replace r1 := r1.below hw1 hw1.size
  go_wp2_with fail
  refine (clone_any _ _ _ g _ n1 r1 h1).mono ?_
  rintro e w2 ⟨x1, rfl, s1, hw2⟩
  replace s0 := s0.below hw2 hw2.size
  have hw : Below w.heap.size w w2 := hw1.trans (hw2.mono hw1.size)
  clear r0 r1 hw1 hw2 n0 n1
  go_wp2_with fail
  refine (stamp_any _ _ _ _).mono ?_
  rintro e w4 ⟨rfl, hb4⟩
  go_wp2_with fail
  obtain ⟨X5, hX5⟩ : ∃ X5, X5 = w4.alloc (Obj.cells #[Value.slice x0 l0 l0] 27) := ⟨_, rfl⟩
  rw [← hX5]
  obtain ⟨bX5, d0, u0⟩ := box_mir hb4 _ X5 hX5
  clear hX5 hb4
  replace s0 := s0.below bX5 bX5.size
  replace s1 := s1.below bX5 bX5.size
  replace hw := hw.trans (bX5.mono hw.size)
  clear bX5
  refine (stamp_any _ _ _ _).mono ?_
  rintro e w6 ⟨rfl, hb6⟩
  have d0' : w6.cell? ⟨w4.heap.size, 0, none⟩ = some (Value.slice x0 l0 l0) := (hb6.cell (by exact u0)).trans d0
  have u0' : w4.heap.size < w6.heap.size := Nat.lt_of_lt_of_le u0 hb6.size
  go_wp2_with fail
  obtain ⟨X7, hX7⟩ : ∃ X7, X7 = w6.alloc (Obj.cells #[Value.slice x1 l1 l1] 27) := ⟨_, rfl⟩
  rw [← hX7]
  obtain ⟨bX7, d1, u1⟩ := box_mir hb6 _ X7 hX7
  replace d0 : X7.cell? ⟨w4.heap.size, 0, none⟩ = some (Value.slice x0 l0 l0) := by rw [hX7, World.cell?_alloc_lt _ _ _ u0']; exact d0'
  replace u0 := Nat.lt_trans u0' u1
  clear hX7 hb6 d0' u0'
  replace s0 := s0.below bX7 bX7.size
  replace s1 := s1.below bX7 bX7.size
  replace hw := hw.trans (bX7.mono hw.size)
  clear bX7
  refine (compare_lit 3 _ _ l0 l0 l0 f f _ (cmp_self f l0) s0 s0 h0 (Nat.le_refl _)).mono ?_
  rintro e w8 ⟨rfl, hb⟩
  obtain ⟨d0, d1, u0, u1, s0, s1, hw⟩ := step_mir hb d0 d1 u0 u1 s0 s1 hw
  clear hb
  go_wp2_with fail
  refine (compare_lit 3 _ _ l1 l1 l1 g g _ (cmp_self g l1) s1 s1 h1 (Nat.le_refl _)).mono ?_
  rintro e w9 ⟨rfl, hb⟩
  obtain ⟨d0, d1, u0, u1, s0, s1, hw⟩ := step_mir hb d0 d1 u0 u1 s0 s1 hw
  clear hb
  go_wp2_with fail
  refine (compare_val v _ _ _ _ _ _ f g _ HV.out s0 s1 h0 (Nat.le_refl _)).mono ?_
  rintro e w10 ⟨rfl, hb⟩
  obtain ⟨d0, d1, u0, u1, s0, s1, hw⟩ := step_mir hb d0 d1 u0 u1 s0 s1 hw
  clear hb
  go_wp2_with fail
  refine (compare_val u _ _ _ _ _ _ g f _ HU.out s1 s0 h1 (Nat.le_refl _)).mono ?_
  rintro e w11 ⟨rfl, hb⟩
  obtain ⟨d0, d1, u0, u1, s0, s1, hw⟩ := step_mir hb d0 d1 u0 u1 s0 s1 hw
  clear hb
  have hc := HC.out
  clear HC HV HU
  rcases hc with ⟨hl, rfl, rfl⟩ | ⟨hl, ⟨rfl, rfl⟩ | ⟨rfl, rfl⟩ | ⟨rfl, rfl⟩ | ⟨rfl, rfl⟩⟩
  all_goals
    go_wp2
    go_ret
    exact ⟨rfl, hw⟩

end Go.Proofs.Qxb6605454a
