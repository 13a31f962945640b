/-
  Compare, dominated, modelCompare, mirror, isOneOfFour: each by a contract.
-/
import Derived.Test.Qxb6605454aBase
namespace Go.Proofs.Qxb6605454a
open Go.RowKit

theorem ret_int {k : IntKind} {a b : Int} (h : a = b) : Ending.returned (.int k a) = .returned (.int k b) := by rw [h]
theorem ret_bool {a b : Bool} (h : a = b) : Ending.returned (.bool a) = .returned (.bool b) := by rw [h]
theorem cmp_four {f g : Nat → Int} {n k : Nat} (h1 : smB f g k = true) (h2 : smB g f k = true) (hk : k ≤ n) : cmpI f g n = 4 := by
  unfold cmpI ordI
  rw [smB_true h1 hk, smB_true h2 hk]
  rfl

set_option maxHeartbeats 400000 in
theorem compare_ne (a0 a1 : Option Addr) (l0 c0 l1 c1 : Nat) (w : World) (hne : l0 ≠ l1) :
    Calls Try.prog 9 #[.agg #[.slice a0 l0 c0], .agg #[.slice a1 l1 c1]] w fun e w' => e = .returned (.int .i64 0) ∧ Below w.heap.size w w' := by
  have h : ((l0 : Int) != (l1 : Int)) = true := by simp; omega
  go_enter Try.func9, Try.ntmps9
  go_wp2
  go_ret
  exact ⟨rfl, ((Below.refl _ _).alloc (Nat.le_refl _) _).alloc (by simp) _⟩

set_option maxHeartbeats 400000 in
theorem compare_eq0 (a0 a1 : Option Addr) (c0 c1 : Nat) (w : World) :
    Calls Try.prog 9 #[.agg #[.slice a0 0 c0], .agg #[.slice a1 0 c1]] w fun e w' => e = .returned (.int .i64 3) ∧ Below w.heap.size w w' := by
  go_enter Try.func9, Try.ntmps9
  go_wp2
  refine wp_loop_rounds 1 ?_
  rw [rounds_succ]
  go_wp2
  go_ret
  exact ⟨rfl, ((Below.refl _ _).alloc (Nat.le_refl _) _).alloc (by simp) _⟩

set_option maxHeartbeats 400000 in
theorem compare_eq (b0 o0 b1 o1 : Nat) (n c0 c1 : Nat) (f g : Nat → Int) (w : World) (hn : n ≤ 65536) (hc1 : n ≤ c1)
    (hb0 : b0 < w.heap.size) (hb1 : b1 < w.heap.size)
    (hf : ∀ i, i < n → w.cell? ⟨b0, o0 + i, none⟩ = some (.int .u64 (f i))) (hg : ∀ i, i < n → w.cell? ⟨b1, o1 + i, none⟩ = some (.int .u64 (g i))) :
    Calls Try.prog 9 #[.agg #[.slice (some ⟨b0, o0, none⟩) n c0], .agg #[.slice (some ⟨b1, o1, none⟩) n c1]] w fun e w' => e = .returned (.int .i64 (cmpI f g n)) ∧ Below w.heap.size w w' := by
  have hne : ((n : Int) != (n : Int)) = false := by simp
  go_enter Try.func9, Try.ntmps9
  go_wp2
  go_loop [5, 6, 27] (fun s l i => ∃ (k : Nat) (x y : Bool), k ≤ n ∧ i = .int .i64 k ∧ s = .bool x ∧ l = .bool y ∧ x = smB f g k ∧ y = smB g f k ∧ ¬ (x = true ∧ y = true)) (fun _ _ i => n - (intOf i).toNat)
  case atStart => exact ⟨0, false, false, Nat.zero_le _, rfl, rfl, rfl, rfl, rfl, by simp⟩
  case round =>
    obtain ⟨k, x, y, hk, rfl, rfl, rfl, hx, hy, hxy⟩ := hrel
    have HX : Hid (x = smB f g k) := hx
    have HY : Hid (y = smB g f k) := hy
    clear hx hy
    by_cases hkl : k < n
    · have hcf := hf k hkl
      have hcg := hg k hkl
      clear hf hg
      cases x <;> cases y <;> (first | (exfalso; simp at hxy; done) | skip)
      all_goals clear hxy
      all_goals rcases (show (f k < g k ∧ ¬ g k < f k) ∨ (¬ f k < g k ∧ g k < f k) ∨ (¬ f k < g k ∧ ¬ g k < f k) from by omega) with ⟨h1, h2⟩ | ⟨h1, h2⟩ | ⟨h1, h2⟩
      all_goals
        go_wp2
        first
        | (go_round
           case rel => exact ⟨k + 1, _, _, by omega, by go_num, rfl, rfl, by simp [smB, ← HX.out, h1], by simp [smB, ← HY.out, h2], by simp⟩
           case measure => simp [intOf]; omega)
        | (go_ret
           exact ⟨ret_int (cmp_four (k := k + 1) (by simp [smB, ← HX.out, h1]) (by simp [smB, ← HY.out, h2]) (by omega)).symm, ((Below.refl _ _).alloc (Nat.le_refl _) _).alloc (by simp) _⟩)
    · obtain rfl : k = n := by omega
      clear hf hg
      go_wp2_with (go_at_call 15; refine (ordering_any _ _ _).mono ?_; rintro e w' ⟨rfl, rfl⟩)
      go_ret
      exact ⟨by rw [HX.out, HY.out]; rfl, ((Below.refl _ _).alloc (Nat.le_refl _) _).alloc (by simp) _⟩

/-- COMPARE: the zero Ordering where the lengths part; else what the cells say. -/
theorem compare_any (B : Nat) (a0 a1 : Option Addr) (l0 c0 l1 c1 : Nat) (f g : Nat → Int) (w : World) (hB : B ≤ w.heap.size) (h0 : RowAt B w a0 l0 f) (h1 : RowAt B w a1 l1 g) (hl : l0 ≤ 65536) (hc1 : l1 ≤ c1) :
    Calls Try.prog 9 #[.agg #[.slice a0 l0 c0], .agg #[.slice a1 l1 c1]] w fun e w' => e = .returned (.int .i64 (if l0 = l1 then cmpI f g l0 else 0)) ∧ Below w.heap.size w w' := by
  by_cases e : l0 = l1
  · subst e
    rw [if_pos rfl]
    by_cases e0 : l0 = 0
    · subst e0
      exact compare_eq0 a0 a1 c0 c1 w
    · rcases h0 with h | ⟨b0, o0, rfl, hb0, hf⟩
      · exact absurd h e0
      rcases h1 with h | ⟨b1, o1, rfl, hb1, hg⟩
      · exact absurd h e0
      exact compare_eq b0 o0 b1 o1 l0 c0 c1 f g w hl hc1 (by omega) (by omega) hf hg
  · rw [if_neg e]
    exact compare_ne a0 a1 l0 c0 l1 c1 w e

/-! ### The plain law: no Go in sight -/
theorem smB_false {f g : Nat → Int} {n : Nat} (h : ∀ j, j < n → g j ≤ f j) : smB f g n = false := by
  induction n with
  | zero => rfl
  | succ n ih =>
    have h1 := h n (by omega)
    simp [smB, ih (fun j hj => h j (by omega))]
    omega

theorem smB_at {f g : Nat → Int} {n j : Nat} (hj : j < n) (h : f j < g j) : smB f g n = true :=
  smB_true (k := j + 1) (by simp [smB, h]) (by omega)

theorem cmp_before {f u : Nat → Int} {n i : Nat} (h : ∀ j, j < n → f j ≤ u j) (hi : i < n) (hlt : f i < u i) : cmpI f u n = 1 ∧ cmpI u f n = 2 := by
  unfold cmpI
  rw [smB_false h, smB_at hi hlt]
  exact ⟨rfl, rfl⟩

theorem compare_lit (v : Int) (a0 a1 : Option Addr) (n c0 c1 : Nat) (f g : Nat → Int) (w : World) (hv : cmpI f g n = v) (h0 : RowAt w.heap.size w a0 n f) (h1 : RowAt w.heap.size w a1 n g) (hl : n ≤ 65536) (hc1 : n ≤ c1) :
    Calls Try.prog 9 #[.agg #[.slice a0 n c0], .agg #[.slice a1 n c1]] w fun e w' => e = .returned (.int .i64 v) ∧ Below w.heap.size w w' := by
  refine (compare_any _ a0 a1 n c0 n c1 f g w (Nat.le_refl _) h0 h1 hl hc1).mono ?_
  rintro e w' ⟨rfl, hb⟩
  rw [if_pos rfl, hv]
  exact ⟨rfl, hb⟩

end Go.Proofs.Qxb6605454a
