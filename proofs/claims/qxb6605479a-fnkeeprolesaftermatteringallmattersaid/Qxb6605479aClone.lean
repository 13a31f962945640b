/-
  The clones and the conversions of pair lists; the comparison of two slices of bools: contracts.
-/
import Derived.Test.Qxb6605479aMem
import Derived.Deep.QuietTactic
import Derived.BigQuiet
import Derived.Deep.RegionHeld3
namespace Go.Proofs.Qxb6605479a
open Go.RowKit

theorem Try.info50 : (Try.prog.info? 50).map (fun i => (i.zero, i.size, i.bytes)) = some (some (.agg #[.int .i64 0, .int .i64 0]), 2, 16) := by kernel_rfl
theorem Try.info69 : (Try.prog.info? 69).map (fun i => (i.zero, i.size, i.bytes)) = some (some (.agg #[.int .i64 0, .int .i64 0]), 2, 16) := by kernel_rfl

/-- Slice against nil. -/
theorem q38 (w : World) (a : Option Addr) (n c n' c' : Nat) : (binOp .eql 38 (.slice a n c) (.slice none n' c')).run Try.prog w = .ok (.bool a.isNone) w := Lib.run_eql_slice_nil w _ _ a n c n' c' Try.underlying38

/-- The block w.heap.size, of N cells, is the call's own; what lay before it is as it was. -/
def Own (w : World) (N : Nat) (wr : World) : Prop :=
  Below w.heap.size w wr ∧ w.heap.size < wr.heap.size ∧ (∀ o, wr.frozen? ⟨w.heap.size, o, none⟩ = false) ∧ (∀ o, o < N → ∃ v, wr.cell? ⟨w.heap.size, o, none⟩ = some v)

theorem cell_set {wr : World} {b o : Nat} (v : Value) (h : ∃ u, wr.cell? ⟨b, o, none⟩ = some u) (o' : Nat) : (wr.setCell ⟨b, o, none⟩ v).cell? ⟨b, o', none⟩ = if o' = o then some v else wr.cell? ⟨b, o', none⟩ := by
  obtain ⟨u, hu⟩ := h
  by_cases e : o' = o
  · subst e; rw [if_pos rfl]; exact World.cell?_setCell_same _ _ _ hu
  · rw [if_neg e]; exact World.cell?_setCell_other _ _ _ _ (by intro h; injection h with _ h2; omega)

theorem cell_far {wr : World} {b o b' o' : Nat} (v : Value) (h : b' ≠ b) : (wr.setCell ⟨b, o, none⟩ v).cell? ⟨b', o', none⟩ = wr.cell? ⟨b', o', none⟩ :=
  World.cell?_setCell_other _ _ _ _ (by intro e; injection e with e1 _; omega)

theorem Own.set {w wr : World} {N : Nat} (h : Own w N wr) {o : Nat} (ho : o < N) (v : Value) : Own w N (wr.setCell ⟨w.heap.size, o, none⟩ v) := by
  obtain ⟨h1, h2, h3, h4⟩ := h
  refine ⟨h1.setCell (Nat.le_refl _) _, by simpa using h2, fun i => by simpa using h3 i, fun i hi => ?_⟩
  rw [cell_set v (h4 o ho)]
  split
  · exact ⟨_, rfl⟩
  · exact h4 i hi

theorem Own.drew {w wr : World} {N : Nat} (h : Own w N wr) : Own w N wr.drew := ⟨h.1.drew, h.2.1, h.2.2.1, h.2.2.2⟩

theorem own_start {w w1 : World} {n s : Nat} {e : TypeId} {z : Value} (hown : w1.ownsRow w.heap.size e s (.slice (some ⟨w.heap.size, 0, none⟩) n n) n (madeCells z.cells (n * s)).toList) (hg : w.grownBy w1 none) : Own w (n * s) w1 := by
  have hb : Below w.heap.size w w1 := (Below.refl _ _).grown hg (Nat.le_refl _) (by simp)
  refine ⟨hb, (hown.lt _ rfl).2, fun i => hown.frozenAt i, fun i hi => ?_⟩
  rw [hown.cellAt i hi]
  have hsz : (madeCells z.cells (n * s)).toList.length = n * s := by
    have h1 := hown.1
    simpa using h1
  exact ⟨_, List.getElem?_eq_getElem (by omega)⟩

/-- What the loop of a clone of pairs holds in its k-th round. -/
def HalfP (w : World) (n : Nat) (f g : Nat → Value) (k : Nat) (wr : World) : Prop :=
  Own w (n * 2) wr ∧ ∀ i, i < k → wr.cell? ⟨w.heap.size, i * 2, none⟩ = some (f i) ∧ wr.cell? ⟨w.heap.size, i * 2 + 1, none⟩ = some (g i)

theorem HalfP.drew {w wr : World} {n : Nat} {f g : Nat → Value} {k : Nat} (h : HalfP w n f g k wr) : HalfP w n f g k wr.drew := ⟨h.1.drew, h.2⟩

theorem HalfP.store {w wr : World} {n : Nat} {f g : Nat → Value} {k : Nat} (h : HalfP w n f g k wr) (hk : k < n) : HalfP w n f g (k + 1) ((wr.setCell ⟨w.heap.size, k * 2, none⟩ (f k)).setCell ⟨w.heap.size, k * 2 + 1, none⟩ (g k)) := by
  obtain ⟨h1, h2⟩ := h
  have o1 := h1.set (o := k * 2) (by omega) (f k)
  refine ⟨o1.set (by omega) _, fun i hi => ?_⟩
  rw [cell_set _ (o1.2.2.2 _ (by omega)), cell_set _ (o1.2.2.2 _ (by omega)), cell_set _ (h1.2.2.2 _ (by omega)), cell_set _ (h1.2.2.2 _ (by omega))]
  by_cases e : i = k
  · subst e
    rw [if_neg (by omega), if_pos rfl, if_pos rfl]
    exact ⟨rfl, rfl⟩
  · rw [if_neg (by omega), if_neg (by omega), if_neg (by omega), if_neg (by omega)]
    exact h2 i (by omega)

theorem half_pairs {w wr : World} {n : Nat} {f g : Nat → Int} (h : HalfP w n (fun i => .int .i64 (f i)) (fun i => .int .i64 (g i)) n wr) : PairsAt wr.heap.size wr (some ⟨w.heap.size, 0, none⟩) n f g :=
  .inr ⟨w.heap.size, 0, rfl, h.1.2.1, fun i hi => by simpa using h.2 i hi⟩

set_option maxHeartbeats 400000 in
theorem cloneCR_zero (x : Addr) (cap : Nat) (w : World) :
    Calls Try.prog 24 #[.slice (some x) 0 cap] w fun e w' => (∃ a', e = .returned (.slice a' 0 0)) ∧ Below w.heap.size w w' := by
  have hq := q38
  obtain ⟨i0, hi, hz0, hz1, hz2⟩ := info_parts Try.info50
  go_enter Try.func24, Try.ntmps24
  go_wp2_with (at_make; refine wpList_make_full _ rfl _ _ 38 rfl w.heap.size 50 i0 (.agg #[.int .i64 0, .int .i64 0]) 2 Try.underlying38 hi hz0 hz1 .i64 .i64 0 0 0 rfl rfl rfl rfl (by omega) (by unfold maxLen; omega) (Nat.le_refl _) ?_; intro w1 hown hgrow)
  refine wp_loop_rounds 1 ?_
  rw [rounds_succ]
  go_wp2
  go_ret
  exact ⟨⟨_, rfl⟩, (Below.refl _ _).grown hgrow (Nat.le_refl _) (by simp)⟩

set_option maxHeartbeats 400000 in
theorem cloneCR_nil (w : World) :
    Calls Try.prog 24 #[.slice none 0 0] w fun e w' => e = .returned (.slice none 0 0) ∧ w = w' := by
  have hq := q38
  go_enter Try.func24, Try.ntmps24
  go_wp2
  go_ret
  exact ⟨rfl, rfl⟩

set_option maxHeartbeats 1000000 in
theorem cloneCR_some (b off n cap : Nat) (f g : Nat → Int) (w : World) (hl : n ≤ 65536) (hlt : b < w.heap.size)
    (hc : ∀ i, i < n → w.cell? ⟨b, off + i * 2, none⟩ = some (.int .i64 (f i)) ∧ w.cell? ⟨b, off + i * 2 + 1, none⟩ = some (.int .i64 (g i))) :
    Calls Try.prog 24 #[.slice (some ⟨b, off, none⟩) n cap] w fun e w' => ∃ a', e = .returned (.slice a' n n) ∧ PairsAt w'.heap.size w' a' n f g ∧ Below w.heap.size w w' := by
  have hq := q38
  obtain ⟨i0, hi, hz0, hz1, hz2⟩ := info_parts Try.info50
  have hb8 : i0.bytes * n ≤ 281474976710656 := by rw [hz2]; omega
  have hml : n ≤ maxLen := by unfold maxLen; omega
  go_enter Try.func24, Try.ntmps24
  go_wp2_with (at_make; refine wpList_make_full _ rfl _ _ 38 rfl w.heap.size 50 i0 (.agg #[.int .i64 0, .int .i64 0]) 2 Try.underlying38 hi hz0 hz1 .i64 .i64 n n n rfl rfl rfl rfl hb8 hml (Nat.le_refl _) ?_; intro w1 hown hgrow)
  have HS : HalfP w n (fun i => .int .i64 (f i)) (fun i => .int .i64 (g i)) 0 w1 := ⟨own_start hown hgrow, fun i hi => by omega⟩
  clear hown hgrow
  go_loopw [4] (fun i wr => ∃ k : Nat, k ≤ n ∧ i = .int .i64 k ∧ HalfP w n (fun i => .int .i64 (f i)) (fun i => .int .i64 (g i)) k wr) (fun i _ => n - (intOf i).toNat)
  case atStart => exact ⟨0, Nat.zero_le _, rfl, HS⟩
  case round =>
    obtain ⟨k, hk, rfl, hH⟩ := hrel
    by_cases hkl : k < n
    · have hcx : wr.cell? ⟨b, off + k * 2, none⟩ = some (.int .i64 (f k)) := (hH.1.1.cell (by exact hlt)).trans (hc k hkl).1
      have hcy : wr.cell? ⟨b, off + k * 2 + 1, none⟩ = some (.int .i64 (g k)) := (hH.1.1.cell (by exact hlt)).trans (hc k hkl).2
      obtain ⟨v0, hv0⟩ := hH.1.2.2.2 (k * 2) (by omega)
      obtain ⟨v1, hv1⟩ := hH.1.2.2.2 (k * 2 + 1) (by omega)
      have hf0 := hH.1.2.2.1 (k * 2)
      have hf1 := hH.1.2.2.1 (k * 2 + 1)
      have hst := hH.store hkl
      clear hH hc HS
      go_wp2
      go_roundw
      case rel => exact ⟨k + 1, by omega, by go_num, hst⟩
      case measure => simp [intOf]; omega
    · obtain rfl : k = n := by omega
      clear hc HS
      go_wp2
      go_ret
      exact ⟨_, rfl, half_pairs hH, hH.1.1⟩

/-- PAIRS COPIED into new memory. -/
theorem cloneCR_any (a : Option Addr) (n cap : Nat) (f g : Nat → Int) (w : World) (hn : a = none → n = 0 ∧ cap = 0) (hl : n ≤ 65536) (hr : PairsAt w.heap.size w a n f g) :
    Calls Try.prog 24 #[.slice a n cap] w fun e w' => ∃ a' c', e = .returned (.slice a' n c') ∧ n ≤ c' ∧ (a' = none → n = 0 ∧ c' = 0) ∧ PairsAt w'.heap.size w' a' n f g ∧ Below w.heap.size w w' := by
  cases a with
  | none =>
    obtain ⟨rfl, rfl⟩ := hn rfl
    refine (cloneCR_nil w).mono ?_
    rintro e w' ⟨rfl, rfl⟩
    exact ⟨none, 0, rfl, Nat.le_refl _, fun _ => ⟨rfl, rfl⟩, .inl rfl, Below.refl _ _⟩
  | some x =>
    rcases hr with h0 | ⟨b, off, e, hlt, hc⟩
    · subst h0
      refine (cloneCR_zero x cap w).mono ?_
      rintro e w' ⟨⟨a', rfl⟩, hb⟩
      exact ⟨a', 0, rfl, Nat.le_refl _, fun _ => ⟨rfl, rfl⟩, .inl rfl, hb⟩
    · simp only [Option.some.injEq] at e
      subst e
      refine (cloneCR_some b off n cap f g w hl hlt hc).mono ?_
      rintro e w' ⟨a', rfl, hp, hb⟩
      refine ⟨a', n, rfl, Nat.le_refl _, fun h => ?_, hp, hb⟩
      rcases hp with h0 | ⟨_, _, h1, _⟩
      · exact ⟨h0, h0⟩
      · rw [h] at h1; cases h1

set_option maxHeartbeats 400000 in
theorem toCR_zero (x : Addr) (cap : Nat) (w : World) :
    Calls Try.prog 27 #[.slice (some x) 0 cap] w fun e w' => (∃ a', e = .returned (.slice a' 0 0)) ∧ Below w.heap.size w w' := by
  have hq := q38
  obtain ⟨i0, hi, hz0, hz1, hz2⟩ := info_parts Try.info69
  go_enter Try.func27, Try.ntmps27
  go_wp2_with (at_make; refine wpList_make_full _ rfl _ _ 45 rfl w.heap.size 69 i0 (.agg #[.int .i64 0, .int .i64 0]) 2 Try.underlying45 hi hz0 hz1 .i64 .i64 0 0 0 rfl rfl rfl rfl (by omega) (by unfold maxLen; omega) (Nat.le_refl _) ?_; intro w1 hown hgrow)
  refine wp_loop_rounds 1 ?_
  rw [rounds_succ]
  go_wp2
  go_ret
  exact ⟨⟨_, rfl⟩, (Below.refl _ _).grown hgrow (Nat.le_refl _) (by simp)⟩

set_option maxHeartbeats 400000 in
theorem toCR_nil (w : World) :
    Calls Try.prog 27 #[.slice none 0 0] w fun e w' => e = .returned (.slice none 0 0) ∧ w = w' := by
  have hq := q38
  go_enter Try.func27, Try.ntmps27
  go_wp2
  go_ret
  exact ⟨rfl, rfl⟩

set_option maxHeartbeats 1000000 in
theorem toCR_some (b off n cap : Nat) (f g : Nat → Int) (w : World) (hl : n ≤ 65536) (hlt : b < w.heap.size)
    (hc : ∀ i, i < n → w.cell? ⟨b, off + i * 2, none⟩ = some (.int .i64 (f i)) ∧ w.cell? ⟨b, off + i * 2 + 1, none⟩ = some (.int .i64 (g i))) :
    Calls Try.prog 27 #[.slice (some ⟨b, off, none⟩) n cap] w fun e w' => ∃ a', e = .returned (.slice a' n n) ∧ PairsAt w'.heap.size w' a' n f g ∧ Below w.heap.size w w' := by
  have hq := q38
  obtain ⟨i0, hi, hz0, hz1, hz2⟩ := info_parts Try.info69
  have hb8 : i0.bytes * n ≤ 281474976710656 := by rw [hz2]; omega
  have hml : n ≤ maxLen := by unfold maxLen; omega
  go_enter Try.func27, Try.ntmps27
  go_wp2_with (at_make; refine wpList_make_full _ rfl _ _ 45 rfl w.heap.size 69 i0 (.agg #[.int .i64 0, .int .i64 0]) 2 Try.underlying45 hi hz0 hz1 .i64 .i64 n n n rfl rfl rfl rfl hb8 hml (Nat.le_refl _) ?_; intro w1 hown hgrow)
  have HS : HalfP w n (fun i => .int .i64 (f i)) (fun i => .int .i64 (g i)) 0 w1 := ⟨own_start hown hgrow, fun i hi => by omega⟩
  clear hown hgrow
  go_loopw [4] (fun i wr => ∃ k : Nat, k ≤ n ∧ i = .int .i64 k ∧ HalfP w n (fun i => .int .i64 (f i)) (fun i => .int .i64 (g i)) k wr) (fun i _ => n - (intOf i).toNat)
  case atStart => exact ⟨0, Nat.zero_le _, rfl, HS⟩
  case round =>
    obtain ⟨k, hk, rfl, hH⟩ := hrel
    by_cases hkl : k < n
    · have hcx : wr.cell? ⟨b, off + k * 2, none⟩ = some (.int .i64 (f k)) := (hH.1.1.cell (by exact hlt)).trans (hc k hkl).1
      have hcy : wr.cell? ⟨b, off + k * 2 + 1, none⟩ = some (.int .i64 (g k)) := (hH.1.1.cell (by exact hlt)).trans (hc k hkl).2
      obtain ⟨v0, hv0⟩ := hH.1.2.2.2 (k * 2) (by omega)
      obtain ⟨v1, hv1⟩ := hH.1.2.2.2 (k * 2 + 1) (by omega)
      have hf0 := hH.1.2.2.1 (k * 2)
      have hf1 := hH.1.2.2.1 (k * 2 + 1)
      have hst := hH.store hkl
      clear hH hc HS
      have hki : (k : Int) < (n : Int) := by omega
      have hk0 : (0 : Int) ≤ (k : Int) := by omega
      have hnb : ¬ w.heap.size = b := by omega
      go_wp2
      go_region_held3 (fun w' => w'.cell? ⟨b, off + k * 2, none⟩ = some (.int .i64 (f k)) ∧ w'.cell? ⟨b, off + k * 2 + 1, none⟩ = some (.int .i64 (g k))) (go_keep) (fail)
      go_wp2
      go_roundw
      case rel => exact ⟨k + 1, by omega, by go_num, hst.drew⟩
      case measure => simp [intOf]; omega
    · obtain rfl : k = n := by omega
      clear hc HS
      go_wp2
      go_ret
      exact ⟨_, rfl, half_pairs hH, hH.1.1⟩

/-- PAIRS COPIED into new memory. -/
theorem toCR_any (a : Option Addr) (n cap : Nat) (f g : Nat → Int) (w : World) (hn : a = none → n = 0 ∧ cap = 0) (hl : n ≤ 65536) (hr : PairsAt w.heap.size w a n f g) :
    Calls Try.prog 27 #[.slice a n cap] w fun e w' => ∃ a' c', e = .returned (.slice a' n c') ∧ n ≤ c' ∧ (a' = none → n = 0 ∧ c' = 0) ∧ PairsAt w'.heap.size w' a' n f g ∧ Below w.heap.size w w' := by
  cases a with
  | none =>
    obtain ⟨rfl, rfl⟩ := hn rfl
    refine (toCR_nil w).mono ?_
    rintro e w' ⟨rfl, rfl⟩
    exact ⟨none, 0, rfl, Nat.le_refl _, fun _ => ⟨rfl, rfl⟩, .inl rfl, Below.refl _ _⟩
  | some x =>
    rcases hr with h0 | ⟨b, off, e, hlt, hc⟩
    · subst h0
      refine (toCR_zero x cap w).mono ?_
      rintro e w' ⟨⟨a', rfl⟩, hb⟩
      exact ⟨a', 0, rfl, Nat.le_refl _, fun _ => ⟨rfl, rfl⟩, .inl rfl, hb⟩
    · simp only [Option.some.injEq] at e
      subst e
      refine (toCR_some b off n cap f g w hl hlt hc).mono ?_
      rintro e w' ⟨a', rfl, hp, hb⟩
      refine ⟨a', n, rfl, Nat.le_refl _, fun h => ?_, hp, hb⟩
      rcases hp with h0 | ⟨_, _, h1, _⟩
      · exact ⟨h0, h0⟩
      · rw [h] at h1; cases h1

/-! ### two slices of bools -/
def BoolsAt (B : Nat) (w : World) (a : Option Addr) (n : Nat) (m : Nat → Bool) : Prop :=
  n = 0 ∨ ∃ b off, a = some ⟨b, off, none⟩ ∧ b < B ∧ ∀ i, i < n → w.cell? ⟨b, off + i, none⟩ = some (.bool (m i))

theorem BoolsAt.below {B B' : Nat} {w w' : World} {a : Option Addr} {n : Nat} {m : Nat → Bool} (h : BoolsAt B w a n m) (hb : Below B w w') (hB : B ≤ B') : BoolsAt B' w' a n m := by
  rcases h with h | ⟨b, off, rfl, hlt, hc⟩
  · exact .inl h
  · exact .inr ⟨b, off, rfl, by omega, fun j hj => (hb.cell hlt).trans (hc j hj)⟩

set_option maxHeartbeats 400000 in
theorem same_pos (b0 o0 b1 o1 n c0 c1 : Nat) (m m' : Nat → Bool) (w : World) (hn : n ≤ 65536) (hb0 : b0 < w.heap.size) (hb1 : b1 < w.heap.size)
    (hf : ∀ i, i < n → w.cell? ⟨b0, o0 + i, none⟩ = some (.bool (m i))) (hg : ∀ i, i < n → w.cell? ⟨b1, o1 + i, none⟩ = some (.bool (m' i))) (he : ∀ i, i < n → m i = m' i) :
    Calls Try.prog 17 #[.slice (some ⟨b0, o0, none⟩) n c0, .slice (some ⟨b1, o1, none⟩) n c1] w fun e w' => e = .returned (.bool true) ∧ Below w.heap.size w w' := by
  have hne : ((n : Int) != (n : Int)) = false := by simp
  go_enter Try.func17, Try.ntmps17
  go_wp2
  go_loopw [5] (fun i wr => ∃ k : Nat, k ≤ n ∧ i = .int .i64 k ∧ Below w.heap.size w wr) (fun i _ => n - (intOf i).toNat)
  case atStart => exact ⟨0, Nat.zero_le _, rfl, Below.refl _ _⟩
  case round =>
    obtain ⟨k, hk, rfl, hb⟩ := hrel
    by_cases hkl : k < n
    · obtain ⟨x, HX⟩ : ∃ x, Hid (m k = x) := ⟨_, rfl⟩
      have hcf : wr.cell? ⟨b0, o0 + k, none⟩ = some (.bool x) := by rw [← HX.out]; exact (hb.cell (by exact hb0)).trans (hf k hkl)
      have hcg : wr.cell? ⟨b1, o1 + k, none⟩ = some (.bool x) := by rw [← HX.out, he k hkl]; exact (hb.cell (by exact hb1)).trans (hg k hkl)
      have hki : (k : Int) < (n : Int) := by omega
      have hk0 : (0 : Int) ≤ (k : Int) := by omega
      clear hf hg he
      go_wp2
      go_quiet (fail)
      cases x
      all_goals
        go_wp2
        go_roundw
        case rel => exact ⟨k + 1, by omega, by go_num, below_drewN hb _⟩
        case measure => simp [intOf]; omega
    · clear hf hg he
      go_wp2
      go_ret
      exact ⟨rfl, hb⟩

set_option maxHeartbeats 400000 in
theorem same_zero (a0 a1 : Option Addr) (c0 c1 : Nat) (w : World) :
    Calls Try.prog 17 #[.slice a0 0 c0, .slice a1 0 c1] w fun e w' => e = .returned (.bool true) ∧ w = w' := by
  go_enter Try.func17, Try.ntmps17
  go_wp2
  refine wp_loop_rounds 1 ?_
  rw [rounds_succ]
  go_wp2
  go_ret
  exact ⟨rfl, rfl⟩

/-- Two slices of bools that read alike. -/
theorem same_any (a0 a1 : Option Addr) (n c0 c1 : Nat) (m m' : Nat → Bool) (w : World) (h0 : BoolsAt w.heap.size w a0 n m) (h1 : BoolsAt w.heap.size w a1 n m') (hl : n ≤ 65536) (he : ∀ i, i < n → m i = m' i) :
    Calls Try.prog 17 #[.slice a0 n c0, .slice a1 n c1] w fun e w' => e = .returned (.bool true) ∧ Below w.heap.size w w' := by
  by_cases e0 : n = 0
  · subst e0
    refine (same_zero a0 a1 c0 c1 w).mono ?_
    rintro e w' ⟨rfl, rfl⟩
    exact ⟨rfl, Below.refl _ _⟩
  · rcases h0 with h | ⟨b0, o0, rfl, hb0, hf⟩
    · exact absurd h e0
    rcases h1 with h | ⟨b1, o1, rfl, hb1, hg⟩
    · exact absurd h e0
    exact same_pos b0 o0 b1 o1 n c0 c1 m m' w hl hb0 hb1 hf hg he

end Go.Proofs.Qxb6605479a
