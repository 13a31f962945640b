/-
  dominated, modelCompare; the walk of FnBloomCompareMatchesDominance.
-/
import Derived.Test.Qxb6605454aCmp
import Derived.Deep.QuietTactic
import Derived.BigQuiet
namespace Go.Proofs.Qxb6605454a
open Go.RowKit

set_option maxHeartbeats 400000 in
theorem dominated_zero (a0 a1 : Option Addr) (c0 c1 : Nat) (w : World) :
    Calls Try.prog 16 #[.slice a0 0 c0, .slice a1 0 c1] w fun e w' => e = .returned (.bool true) ∧ w = w' := by
  go_enter Try.func16, Try.ntmps16
  go_wp2
  refine wp_loop_rounds 1 ?_
  rw [rounds_succ]
  go_wp2
  go_ret
  exact ⟨rfl, rfl⟩

set_option maxHeartbeats 400000 in
theorem dominated_pos (b0 o0 b1 o1 n c0 c1 : Nat) (f g : Nat → Int) (w : World) (hn : n ≤ 65536) (hb0 : b0 < w.heap.size) (hb1 : b1 < w.heap.size)
    (hf : ∀ i, i < n → w.cell? ⟨b0, o0 + i, none⟩ = some (.int .u64 (f i))) (hg : ∀ i, i < n → w.cell? ⟨b1, o1 + i, none⟩ = some (.int .u64 (g i))) :
    Calls Try.prog 16 #[.slice (some ⟨b0, o0, none⟩) n c0, .slice (some ⟨b1, o1, none⟩) n c1] w fun e w' => e = .returned (.bool (!smB g f n)) ∧ Below w.heap.size w w' := by
  go_enter Try.func16, Try.ntmps16
  go_wp2
  go_loopw [5] (fun i wr => ∃ k : Nat, k ≤ n ∧ i = .int .i64 k ∧ Hid (smB g f k = false) ∧ Below w.heap.size w wr) (fun i _ => n - (intOf i).toNat)
  case atStart => exact ⟨0, Nat.zero_le _, rfl, rfl, Below.refl _ _⟩
  case round =>
    obtain ⟨k, hk, rfl, HF, hb⟩ := hrel
    by_cases hkl : k < n
    · have hcf : wr.cell? ⟨b0, o0 + k, none⟩ = some (.int .u64 (f k)) := (hb.cell (by exact hb0)).trans (hf k hkl)
      have hcg : wr.cell? ⟨b1, o1 + k, none⟩ = some (.int .u64 (g k)) := (hb.cell (by exact hb1)).trans (hg k hkl)
      have hki : (k : Int) < (n : Int) := by omega
      have hk0 : (0 : Int) ≤ (k : Int) := by omega
      clear hf hg
      by_cases h : g k < f k
      · go_wp2
        go_quiet (fail)
        go_wp2
        go_ret
        exact ⟨ret_bool (by rw [smB_at hkl h]; rfl), below_drewN hb _⟩
      · go_wp2
        go_quiet (fail)
        go_wp2
        go_roundw
        case rel => exact ⟨k + 1, by omega, by go_num, by show smB g f (k + 1) = false; simp [smB, HF.out, h], below_drewN hb _⟩
        case measure => simp [intOf]; omega
    · obtain rfl : k = n := by omega
      clear hf hg
      go_wp2
      go_ret
      exact ⟨ret_bool (by rw [HF.out]; rfl), hb⟩

theorem dominated_any (a0 a1 : Option Addr) (n c0 c1 : Nat) (f g : Nat → Int) (w : World) (h0 : RowAt w.heap.size w a0 n f) (h1 : RowAt w.heap.size w a1 n g) (hl : n ≤ 65536) :
    Calls Try.prog 16 #[.slice a0 n c0, .slice a1 n c1] w fun e w' => e = .returned (.bool (!smB g f n)) ∧ Below w.heap.size w w' := by
  by_cases e0 : n = 0
  · subst e0
    refine (dominated_zero a0 a1 c0 c1 w).mono ?_
    rintro e w' ⟨rfl, rfl⟩
    exact ⟨rfl, Below.refl _ _⟩
  · rcases h0 with h | ⟨b0, o0, rfl, hb0, hf⟩
    · exact absurd h e0
    rcases h1 with h | ⟨b1, o1, rfl, hb1, hg⟩
    · exact absurd h e0
    exact dominated_pos b0 o0 b1 o1 n c0 c1 f g w hl hb0 hb1 hf hg

set_option maxHeartbeats 400000 in
theorem model_ne (a0 a1 : Option Addr) (l0 c0 l1 c1 : Nat) (w : World) (hne : l0 ≠ l1) :
    Calls Try.prog 10 #[.slice a0 l0 c0, .slice a1 l1 c1] w fun e w' => e = .returned (.int .i64 0) ∧ Below w.heap.size w w' := by
  have h : ((l0 : Int) != (l1 : Int)) = true := by simp; omega
  go_enter Try.func10, Try.ntmps10
  go_wp2
  go_ret
  exact ⟨rfl, Below.refl _ _⟩

set_option maxHeartbeats 400000 in
theorem model_eq (a0 a1 : Option Addr) (n c0 c1 : Nat) (f g : Nat → Int) (w : World) (h0 : RowAt w.heap.size w a0 n f) (h1 : RowAt w.heap.size w a1 n g) (hl : n ≤ 65536) :
    Calls Try.prog 10 #[.slice a0 n c0, .slice a1 n c1] w fun e w' => e = .returned (.int .i64 (cmpI f g n)) ∧ Below w.heap.size w w' := by
  have h : ((n : Int) != (n : Int)) = false := by simp
  obtain ⟨x, HX⟩ : ∃ x, Hid ((!smB g f n) = x) := ⟨_, rfl⟩
  obtain ⟨y, HY⟩ : ∃ y, Hid ((!smB f g n) = y) := ⟨_, rfl⟩
  go_enter Try.func10, Try.ntmps10
  go_wp2_with fail
  refine (dominated_any a0 a1 n c0 c1 f g _ h0 h1 hl).mono ?_
  rintro e w1 ⟨rfl, hb1⟩
  rw [HX.out]
  go_wp2_with fail
  refine (dominated_any a1 a0 n c1 c0 g f _ (h1.below hb1 hb1.size) (h0.below hb1 hb1.size) hl).mono ?_
  rintro e w2 ⟨rfl, hb2⟩
  rw [HY.out]
  have hb := hb1.trans (hb2.mono hb1.size)
  clear h0 h1 hb1 hb2
  cases x <;> cases y
  all_goals
    go_wp2
    go_ret
    exact ⟨ret_int (by have hx := HX.out; have hy := HY.out; simp at hx hy; simp [cmpI, ordI, hx, hy]), hb⟩

theorem model_any (a0 a1 : Option Addr) (l0 c0 l1 c1 : Nat) (f g : Nat → Int) (w : World) (h0 : RowAt w.heap.size w a0 l0 f) (h1 : RowAt w.heap.size w a1 l1 g) (hl : l0 ≤ 65536) :
    Calls Try.prog 10 #[.slice a0 l0 c0, .slice a1 l1 c1] w fun e w' => e = .returned (.int .i64 (if l0 = l1 then cmpI f g l0 else 0)) ∧ Below w.heap.size w w' := by
  by_cases e : l0 = l1
  · subst e
    rw [if_pos rfl]
    exact model_eq a0 a1 l0 c0 c1 f g w h0 h1 hl
  · rw [if_neg e]
    exact model_ne a0 a1 l0 c0 l1 c1 w e

/-! ### The law -/
theorem dom_early (a0 : Option Addr) (l0 c0 : Nat) (a1 : Option Addr) (l1 c1 : Nat) (w : World) (m0 : l0 ≤ maxLen) (m1 : l1 ≤ maxLen)
    (h : 65536 < l0 ∨ (l0 ≤ 65536 ∧ 65536 < l1)) :
    Calls Try.prog 3 #[.slice a0 l0 c0, .slice a1 l1 c1] w fun e w' => e = .returned (.bool true) ∧ Below w.heap.size w w' := by
  unfold maxLen at m0 m1
  rcases h with h | ⟨h, h'⟩
  all_goals
    go_enter Try.func3, Try.ntmps3
    go_wp2_with (go_at_call 6; refine (bytes6_any _ _ _ _ _ _ (by unfold maxLen; omega) (by unfold maxLen; omega) _).mono ?_; rintro e w' ⟨⟨b, rfl⟩, rfl⟩; cases b)
    all_goals
      go_ret
      exact ⟨rfl, Below.refl _ _⟩

set_option maxHeartbeats 400000 in
theorem dom_main (a0 : Option Addr) (l0 c0 : Nat) (a1 : Option Addr) (l1 c1 : Nat) (f g : Nat → Int) (w : World) (n0 : a0 = none → l0 = 0 ∧ c0 = 0) (n1 : a1 = none → l1 = 0 ∧ c1 = 0)
    (h0 : l0 ≤ 65536) (h1 : l1 ≤ 65536) (r0 : RowAt w.heap.size w a0 l0 f) (r1 : RowAt w.heap.size w a1 l1 g) :
    Calls Try.prog 3 #[.slice a0 l0 c0, .slice a1 l1 c1] w fun e w' => e = .returned (.bool true) ∧ Below w.heap.size w w' := by
  obtain ⟨v, HV⟩ : ∃ v, Hid ((if l0 = l1 then cmpI f g l0 else 0) = v) := ⟨_, rfl⟩
  go_enter Try.func3, Try.ntmps3
  go_wp2_with fail
  refine (bytes6_any _ _ _ _ _ _ (by unfold maxLen; omega) (by unfold maxLen; omega) _).mono ?_
  rintro e w' ⟨⟨b, rfl⟩, rfl⟩
  cases b
  · go_wp2
    go_ret
    exact ⟨rfl, Below.refl _ _⟩
  go_wp2_with fail
  refine (clone_any _ _ _ f _ n0 r0 h0).mono ?_
  rintro e w1 ⟨x0, rfl, s0, hw1⟩
  replace r1 := r1.below hw1 hw1.size
  go_wp2_with fail
  refine (clone_any _ _ _ g _ n1 r1 h1).mono ?_
  rintro e w2 ⟨x1, rfl, s1, hw2⟩
  replace s0 := s0.below hw2 hw2.size
  have hw : Below w.heap.size w w2 := hw1.trans (hw2.mono hw1.size)
  clear r0 r1 hw1 hw2 n0 n1
  go_wp2_with fail
  refine (stamp_any _ _ _ _).mono ?_
  rintro e w3 ⟨rfl, hb⟩
  replace s0 := s0.below hb hb.size
  replace s1 := s1.below hb hb.size
  replace hw := hw.trans (hb.mono hw.size)
  clear hb
  go_wp2_with fail
  refine (stamp_any _ _ _ _).mono ?_
  rintro e w4 ⟨rfl, hb⟩
  replace s0 := s0.below hb hb.size
  replace s1 := s1.below hb hb.size
  replace hw := hw.trans (hb.mono hw.size)
  clear hb
  go_wp2_with fail
  refine (compare_any _ _ _ _ _ _ _ f g _ (Nat.le_refl _) s0 s1 h0 (Nat.le_refl _)).mono ?_
  rintro e w5 ⟨rfl, hb⟩
  rw [HV.out]
  replace s0 := s0.below hb hb.size
  replace s1 := s1.below hb hb.size
  replace hw := hw.trans (hb.mono hw.size)
  clear hb
  go_wp2_with fail
  refine (model_any _ _ _ _ _ _ f g _ s0 s1 h0).mono ?_
  rintro e w6 ⟨rfl, hb⟩
  rw [HV.out]
  replace hw := hw.trans (hb.mono hw.size)
  clear hb s0 s1
  go_wp2
  go_ret
  exact ⟨rfl, hw⟩

end Go.Proofs.Qxb6605454a
