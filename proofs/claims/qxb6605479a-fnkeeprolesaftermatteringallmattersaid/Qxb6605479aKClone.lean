/-
  The clones of strings and of assignments: contracts.
-/
import Derived.Test.Qxb6605479aKBytes
namespace Go.Proofs.Qxb6605479a
open Go.RowKit

theorem Try.info67 : (Try.prog.info? 67).map (fun i => (i.zero, i.size, i.bytes)) = some (some (.agg #[.int .i64 0, .int .i64 0]), 2, 16) := by kernel_rfl
theorem Try.info68 : (Try.prog.info? 68).map (fun i => (i.zero, i.size, i.bytes)) = some (some (.agg #[.int .i64 0, .int .i64 0]), 2, 16) := by kernel_rfl
theorem Try.info9 : (Try.prog.info? 9).map (fun i => (i.zero, i.size, i.bytes)) = some (some (.string ByteArray.empty), 1, 16) := by kernel_rfl
theorem q52 (w : World) (a : Option Addr) (n c n' c' : Nat) : (binOp .eql 52 (.slice a n c) (.slice none n' c')).run Try.prog w = .ok (.bool a.isNone) w := Lib.run_eql_slice_nil w _ _ a n c n' c' Try.underlying52
theorem q51 (w : World) (a : Option Addr) (n c n' c' : Nat) : (binOp .eql 51 (.slice a n c) (.slice none n' c')).run Try.prog w = .ok (.bool a.isNone) w := Lib.run_eql_slice_nil w _ _ a n c n' c' Try.underlying51

/-- What the loop of the clone of strings holds in its k-th round. -/
def HalfS (w : World) (n : Nat) (ss : Nat → ByteArray) (k : Nat) (wr : World) : Prop :=
  Own w n wr ∧ ∀ i, i < k → wr.cell? ⟨w.heap.size, i, none⟩ = some (.string (ss i))

theorem HalfS.store {w wr : World} {n : Nat} {ss : Nat → ByteArray} {k : Nat} (h : HalfS w n ss k wr) (hk : k < n) : HalfS w n ss (k + 1) (wr.setCell ⟨w.heap.size, k, none⟩ (.string (ss k))) := by
  refine ⟨h.1.set hk _, fun i hi => ?_⟩
  rw [cell_set _ (h.1.2.2.2 _ hk)]
  split
  · rename_i e; rw [e]
  · exact h.2 i (by omega)

set_option maxHeartbeats 400000 in
theorem cloneStrs_nil (w : World) :
    Calls Try.prog 33 #[.slice none 0 0] w fun e w' => e = .returned (.slice none 0 0) ∧ w = w' := by
  have hq := q51
  go_enter Try.func33, Try.ntmps33
  go_wp2
  go_ret
  exact ⟨rfl, rfl⟩

set_option maxHeartbeats 400000 in
theorem cloneStrs_some (x : Addr) (n cap : Nat) (ss : Nat → ByteArray) (w : World) (hl : n ≤ 65536) (hr : StrsAt w.heap.size w (some x) n ss) :
    Calls Try.prog 33 #[.slice (some x) n cap] w fun e w' => ∃ a', e = .returned (.slice a' n n) ∧ StrsAt w'.heap.size w' a' n ss ∧ Below w.heap.size w w' := by
  have hq := q51
  obtain ⟨i0, hi, hz0, hz1, hz2⟩ := info_parts Try.info9
  have hb8 : i0.bytes * n ≤ 281474976710656 := by rw [hz2]; omega
  have hml : n ≤ maxLen := by unfold maxLen; omega
  go_enter Try.func33, Try.ntmps33
  go_wp2_with (at_make; refine wpList_make_full _ rfl _ _ 51 rfl w.heap.size 9 i0 (.string ByteArray.empty) 1 Try.underlying51 hi hz0 hz1 .i64 .i64 n n n rfl rfl rfl rfl hb8 hml (Nat.le_refl _) ?_; intro w1 hown hgrow)
  have HS : HalfS w n ss 0 w1 := ⟨by have := own_start hown hgrow; rwa [Nat.mul_one] at this, fun i hi => by omega⟩
  clear hown hgrow hb8 hml hi hz0 hz1 hz2
  go_loopw [4] (fun i wr => ∃ k : Nat, k ≤ n ∧ i = .int .i64 k ∧ HalfS w n ss k wr) (fun i _ => n - (intOf i).toNat)
  case atStart => exact ⟨0, Nat.zero_le _, rfl, HS⟩
  case round =>
    clear HS
    obtain ⟨k, hk, rfl, hH⟩ := hrel
    by_cases hkl : k < n
    · rcases hr with h0 | ⟨b, off, e, hlt, hc⟩
      · omega
      simp only [Option.some.injEq] at e
      subst e
      have hcx : wr.cell? ⟨b, off + k, none⟩ = some (.string (ss k)) := (hH.1.1.cell (by exact hlt)).trans (hc k hkl)
      obtain ⟨v0, hv0⟩ := hH.1.2.2.2 k hkl
      have hf0 := hH.1.2.2.1 k
      have hst := hH.store hkl
      clear hH hc
      go_wp2
      go_roundw
      case rel => exact ⟨k + 1, by omega, by go_num, hst⟩
      case measure => simp [intOf]; omega
    · obtain rfl : k = n := by omega
      clear hr
      go_wp2
      go_ret
      exact ⟨_, rfl, .inr ⟨w.heap.size, 0, rfl, hH.1.2.1, fun i hi => by simpa using hH.2 i hi⟩, hH.1.1⟩

/-- STRINGS COPIED into new memory. -/
theorem cloneStrs_any (a : Option Addr) (n cap : Nat) (ss : Nat → ByteArray) (w : World) (hn : a = none → n = 0 ∧ cap = 0) (hl : n ≤ 65536) (hr : StrsAt w.heap.size w a n ss) :
    Calls Try.prog 33 #[.slice a n cap] w fun e w' => ∃ a' c', e = .returned (.slice a' n c') ∧ n ≤ c' ∧ (a' = none → n = 0 ∧ c' = 0) ∧ StrsAt w'.heap.size w' a' n ss ∧ Below w.heap.size w w' := by
  cases a with
  | none =>
    obtain ⟨rfl, rfl⟩ := hn rfl
    refine (cloneStrs_nil w).mono ?_
    rintro e w' ⟨rfl, rfl⟩
    exact ⟨none, 0, rfl, Nat.le_refl _, fun _ => ⟨rfl, rfl⟩, .inl rfl, Below.refl _ _⟩
  | some x =>
    refine (cloneStrs_some x n cap ss w hl hr).mono ?_
    rintro e w' ⟨a', rfl, hp, hb⟩
    refine ⟨a', n, rfl, Nat.le_refl _, fun h => ?_, hp, hb⟩
    rcases hp with h0 | ⟨_, _, h1, _⟩
    · exact ⟨h0, h0⟩
    · rw [h] at h1; cases h1

set_option maxHeartbeats 400000 in
theorem cloneUA_zero (x : Addr) (cap : Nat) (w : World) :
    Calls Try.prog 34 #[.slice (some x) 0 cap] w fun e w' => (∃ a', e = .returned (.slice a' 0 0)) ∧ Below w.heap.size w w' := by
  have hq := q52
  obtain ⟨i0, hi, hz0, hz1, hz2⟩ := info_parts Try.info67
  go_enter Try.func34, Try.ntmps34
  go_wp2_with (at_make; refine wpList_make_full _ rfl _ _ 52 rfl w.heap.size 67 i0 (.agg #[.int .i64 0, .int .i64 0]) 2 Try.underlying52 hi hz0 hz1 .i64 .i64 0 0 0 rfl rfl rfl rfl (by omega) (by unfold maxLen; omega) (Nat.le_refl _) ?_; intro w1 hown hgrow)
  refine wp_loop_rounds 1 ?_
  rw [rounds_succ]
  go_wp2
  go_ret
  exact ⟨⟨_, rfl⟩, (Below.refl _ _).grown hgrow (Nat.le_refl _) (by simp)⟩

set_option maxHeartbeats 400000 in
theorem cloneUA_nil (w : World) :
    Calls Try.prog 34 #[.slice none 0 0] w fun e w' => e = .returned (.slice none 0 0) ∧ w = w' := by
  have hq := q52
  go_enter Try.func34, Try.ntmps34
  go_wp2
  go_ret
  exact ⟨rfl, rfl⟩

set_option maxHeartbeats 1000000 in
theorem cloneUA_some (b off n cap : Nat) (f g : Nat → Int) (w : World) (hl : n ≤ 65536) (hlt : b < w.heap.size)
    (hc : ∀ i, i < n → w.cell? ⟨b, off + i * 2, none⟩ = some (.int .i64 (f i)) ∧ w.cell? ⟨b, off + i * 2 + 1, none⟩ = some (.int .i64 (g i))) :
    Calls Try.prog 34 #[.slice (some ⟨b, off, none⟩) n cap] w fun e w' => ∃ a', e = .returned (.slice a' n n) ∧ PairsAt w'.heap.size w' a' n f g ∧ Below w.heap.size w w' := by
  have hq := q52
  obtain ⟨i0, hi, hz0, hz1, hz2⟩ := info_parts Try.info67
  have hb8 : i0.bytes * n ≤ 281474976710656 := by rw [hz2]; omega
  have hml : n ≤ maxLen := by unfold maxLen; omega
  go_enter Try.func34, Try.ntmps34
  go_wp2_with (at_make; refine wpList_make_full _ rfl _ _ 52 rfl w.heap.size 67 i0 (.agg #[.int .i64 0, .int .i64 0]) 2 Try.underlying52 hi hz0 hz1 .i64 .i64 n n n rfl rfl rfl rfl hb8 hml (Nat.le_refl _) ?_; intro w1 hown hgrow)
  have HS : HalfP w n (fun i => .int .i64 (f i)) (fun i => .int .i64 (g i)) 0 w1 := ⟨own_start hown hgrow, fun i hi => by omega⟩
  clear hown hgrow
  go_loopw [4] (fun i wr => ∃ k : Nat, k ≤ n ∧ i = .int .i64 k ∧ HalfP w n (fun i => .int .i64 (f i)) (fun i => .int .i64 (g i)) k wr) (fun i _ => n - (intOf i).toNat)
  case atStart => exact ⟨0, Nat.zero_le _, rfl, HS⟩
  case round =>
    obtain ⟨k, hk, rfl, hH⟩ := hrel
    by_cases hkl : k < n
    · have hcx : wr.cell? ⟨b, off + k * 2, none⟩ = some (.int .i64 (f k)) := (hH.1.1.cell (by exact hlt)).trans (hc k hkl).1
      have hcy : wr.cell? ⟨b, off + k * 2 + 1, none⟩ = some (.int .i64 (g k)) := (hH.1.1.cell (by exact hlt)).trans (hc k hkl).2
      obtain ⟨v0, hv0⟩ := hH.1.2.2.2 (k * 2) (by omega)
      obtain ⟨v1, hv1⟩ := hH.1.2.2.2 (k * 2 + 1) (by omega)
      have hf0 := hH.1.2.2.1 (k * 2)
      have hf1 := hH.1.2.2.1 (k * 2 + 1)
      have hst := hH.store hkl
      clear hH hc HS
      go_wp2
      go_roundw
      case rel => exact ⟨k + 1, by omega, by go_num, hst⟩
      case measure => simp [intOf]; omega
    · obtain rfl : k = n := by omega
      clear hc HS
      go_wp2
      go_ret
      exact ⟨_, rfl, half_pairs hH, hH.1.1⟩

/-- PAIRS COPIED into new memory. -/
theorem cloneUA_any (a : Option Addr) (n cap : Nat) (f g : Nat → Int) (w : World) (hn : a = none → n = 0 ∧ cap = 0) (hl : n ≤ 65536) (hr : PairsAt w.heap.size w a n f g) :
    Calls Try.prog 34 #[.slice a n cap] w fun e w' => ∃ a' c', e = .returned (.slice a' n c') ∧ n ≤ c' ∧ (a' = none → n = 0 ∧ c' = 0) ∧ PairsAt w'.heap.size w' a' n f g ∧ Below w.heap.size w w' := by
  cases a with
  | none =>
    obtain ⟨rfl, rfl⟩ := hn rfl
    refine (cloneUA_nil w).mono ?_
    rintro e w' ⟨rfl, rfl⟩
    exact ⟨none, 0, rfl, Nat.le_refl _, fun _ => ⟨rfl, rfl⟩, .inl rfl, Below.refl _ _⟩
  | some x =>
    rcases hr with h0 | ⟨b, off, e, hlt, hc⟩
    · subst h0
      refine (cloneUA_zero x cap w).mono ?_
      rintro e w' ⟨⟨a', rfl⟩, hb⟩
      exact ⟨a', 0, rfl, Nat.le_refl _, fun _ => ⟨rfl, rfl⟩, .inl rfl, hb⟩
    · simp only [Option.some.injEq] at e
      subst e
      refine (cloneUA_some b off n cap f g w hl hlt hc).mono ?_
      rintro e w' ⟨a', rfl, hp, hb⟩
      refine ⟨a', n, rfl, Nat.le_refl _, fun h => ?_, hp, hb⟩
      rcases hp with h0 | ⟨_, _, h1, _⟩
      · exact ⟨h0, h0⟩
      · rw [h] at h1; cases h1

set_option maxHeartbeats 400000 in
theorem toUA_zero (x : Addr) (cap : Nat) (w : World) :
    Calls Try.prog 35 #[.slice (some x) 0 cap] w fun e w' => (∃ a', e = .returned (.slice a' 0 0)) ∧ Below w.heap.size w w' := by
  have hq := q52
  obtain ⟨i0, hi, hz0, hz1, hz2⟩ := info_parts Try.info68
  go_enter Try.func35, Try.ntmps35
  go_wp2_with (at_make; refine wpList_make_full _ rfl _ _ 59 rfl w.heap.size 68 i0 (.agg #[.int .i64 0, .int .i64 0]) 2 Try.underlying59 hi hz0 hz1 .i64 .i64 0 0 0 rfl rfl rfl rfl (by omega) (by unfold maxLen; omega) (Nat.le_refl _) ?_; intro w1 hown hgrow)
  refine wp_loop_rounds 1 ?_
  rw [rounds_succ]
  go_wp2
  go_ret
  exact ⟨⟨_, rfl⟩, (Below.refl _ _).grown hgrow (Nat.le_refl _) (by simp)⟩

set_option maxHeartbeats 400000 in
theorem toUA_nil (w : World) :
    Calls Try.prog 35 #[.slice none 0 0] w fun e w' => e = .returned (.slice none 0 0) ∧ w = w' := by
  have hq := q52
  go_enter Try.func35, Try.ntmps35
  go_wp2
  go_ret
  exact ⟨rfl, rfl⟩

set_option maxHeartbeats 1000000 in
theorem toUA_some (b off n cap : Nat) (f g : Nat → Int) (w : World) (hl : n ≤ 65536) (hlt : b < w.heap.size)
    (hc : ∀ i, i < n → w.cell? ⟨b, off + i * 2, none⟩ = some (.int .i64 (f i)) ∧ w.cell? ⟨b, off + i * 2 + 1, none⟩ = some (.int .i64 (g i))) :
    Calls Try.prog 35 #[.slice (some ⟨b, off, none⟩) n cap] w fun e w' => ∃ a', e = .returned (.slice a' n n) ∧ PairsAt w'.heap.size w' a' n f g ∧ Below w.heap.size w w' := by
  have hq := q52
  obtain ⟨i0, hi, hz0, hz1, hz2⟩ := info_parts Try.info68
  have hb8 : i0.bytes * n ≤ 281474976710656 := by rw [hz2]; omega
  have hml : n ≤ maxLen := by unfold maxLen; omega
  go_enter Try.func35, Try.ntmps35
  go_wp2_with (at_make; refine wpList_make_full _ rfl _ _ 59 rfl w.heap.size 68 i0 (.agg #[.int .i64 0, .int .i64 0]) 2 Try.underlying59 hi hz0 hz1 .i64 .i64 n n n rfl rfl rfl rfl hb8 hml (Nat.le_refl _) ?_; intro w1 hown hgrow)
  have HS : HalfP w n (fun i => .int .i64 (f i)) (fun i => .int .i64 (g i)) 0 w1 := ⟨own_start hown hgrow, fun i hi => by omega⟩
  clear hown hgrow
  go_loopw [4] (fun i wr => ∃ k : Nat, k ≤ n ∧ i = .int .i64 k ∧ HalfP w n (fun i => .int .i64 (f i)) (fun i => .int .i64 (g i)) k wr) (fun i _ => n - (intOf i).toNat)
  case atStart => exact ⟨0, Nat.zero_le _, rfl, HS⟩
  case round =>
    obtain ⟨k, hk, rfl, hH⟩ := hrel
    by_cases hkl : k < n
    · have hcx : wr.cell? ⟨b, off + k * 2, none⟩ = some (.int .i64 (f k)) := (hH.1.1.cell (by exact hlt)).trans (hc k hkl).1
      have hcy : wr.cell? ⟨b, off + k * 2 + 1, none⟩ = some (.int .i64 (g k)) := (hH.1.1.cell (by exact hlt)).trans (hc k hkl).2
      obtain ⟨v0, hv0⟩ := hH.1.2.2.2 (k * 2) (by omega)
      obtain ⟨v1, hv1⟩ := hH.1.2.2.2 (k * 2 + 1) (by omega)
      have hf0 := hH.1.2.2.1 (k * 2)
      have hf1 := hH.1.2.2.1 (k * 2 + 1)
      have hst := hH.store hkl
      clear hH hc HS
      have hki : (k : Int) < (n : Int) := by omega
      have hk0 : (0 : Int) ≤ (k : Int) := by omega
      have hnb : ¬ w.heap.size = b := by omega
      go_wp2
      go_region_held3 (fun w' => w'.cell? ⟨b, off + k * 2, none⟩ = some (.int .i64 (f k)) ∧ w'.cell? ⟨b, off + k * 2 + 1, none⟩ = some (.int .i64 (g k))) (go_keep) (fail)
      go_wp2
      go_roundw
      case rel => exact ⟨k + 1, by omega, by go_num, hst.drew⟩
      case measure => simp [intOf]; omega
    · obtain rfl : k = n := by omega
      clear hc HS
      go_wp2
      go_ret
      exact ⟨_, rfl, half_pairs hH, hH.1.1⟩

/-- PAIRS COPIED into new memory. -/
theorem toUA_any (a : Option Addr) (n cap : Nat) (f g : Nat → Int) (w : World) (hn : a = none → n = 0 ∧ cap = 0) (hl : n ≤ 65536) (hr : PairsAt w.heap.size w a n f g) :
    Calls Try.prog 35 #[.slice a n cap] w fun e w' => ∃ a' c', e = .returned (.slice a' n c') ∧ n ≤ c' ∧ (a' = none → n = 0 ∧ c' = 0) ∧ PairsAt w'.heap.size w' a' n f g ∧ Below w.heap.size w w' := by
  cases a with
  | none =>
    obtain ⟨rfl, rfl⟩ := hn rfl
    refine (toUA_nil w).mono ?_
    rintro e w' ⟨rfl, rfl⟩
    exact ⟨none, 0, rfl, Nat.le_refl _, fun _ => ⟨rfl, rfl⟩, .inl rfl, Below.refl _ _⟩
  | some x =>
    rcases hr with h0 | ⟨b, off, e, hlt, hc⟩
    · subst h0
      refine (toUA_zero x cap w).mono ?_
      rintro e w' ⟨⟨a', rfl⟩, hb⟩
      exact ⟨a', 0, rfl, Nat.le_refl _, fun _ => ⟨rfl, rfl⟩, .inl rfl, hb⟩
    · simp only [Option.some.injEq] at e
      subst e
      refine (toUA_some b off n cap f g w hl hlt hc).mono ?_
      rintro e w' ⟨a', rfl, hp, hb⟩
      refine ⟨a', n, rfl, Nat.le_refl _, fun h => ?_, hp, hb⟩
      rcases hp with h0 | ⟨_, _, h1, _⟩
      · exact ⟨h0, h0⟩
      · rw [h] at h1; cases h1

end Go.Proofs.Qxb6605479a
