/-
  The callees of FnCopyValueFreshCopy, each by a contract.
-/
import Derived.Test.Qxb6003619aRows
import Derived.WalkKit
import Derived.WalkSpells
import Derived.WalkLawsBesides
import Derived.BigQuiet
import Derived.Laws.CopyOwn
namespace Go.Proofs.Qxb6003619a
open Go.RowKit

/-- The slice 'a' of 'len' cells reads, cell by cell, as 'f' in the world w, and lies below block B. -/
def RowAt (B : Nat) (w : World) (a : Option Addr) (len : Nat) (f : Nat → Int) : Prop :=
  len = 0 ∨ ∃ b off, a = some ⟨b, off, none⟩ ∧ b < B ∧ ∀ i, i < len → w.cell? ⟨b, off + i, none⟩ = some (.int .u8 (f i))

theorem RowAt.below {B B' : Nat} {w w' : World} {a : Option Addr} {len : Nat} {f : Nat → Int} (h : RowAt B w a len f) (hb : Below B w w') (hB : B ≤ B') : RowAt B' w' a len f := by
  rcases h with h | ⟨b, off, rfl, hlt, hc⟩
  · exact .inl h
  · exact .inr ⟨b, off, rfl, by omega, fun i hi => (hb.cell hlt).trans (hc i hi)⟩

theorem Try.info5 : (Try.prog.info? 5).map (fun i => (i.zero, i.size, i.bytes)) = some (some (.int .u8 0), 1, 1) := by kernel_rfl
theorem Try.size5 : (Try.prog.info? 5).map (·.size) = some 1 := by kernel_rfl

set_option maxHeartbeats 400000 in
theorem bytes5_any (a0 a1 : Option Addr) (l0 c0 l1 c1 : Nat) (e s : Int) (h0 : l0 ≤ maxLen) (h1 : l1 ≤ maxLen) (w : World) :
    Calls Try.prog 5 #[.slice a0 l0 c0, .slice a1 l1 c1, .int .i64 e, .int .i64 s] w fun e w' => (∃ b : Bool, e = .returned (.bool b)) ∧ w = w' := by
  unfold maxLen at h0 h1
  go_enter Try.func5, Try.ntmps5
  go_wp2
  all_goals go_ret
  all_goals exact ⟨⟨_, rfl⟩, rfl⟩

set_option maxHeartbeats 400000 in
theorem clone_nil (w : World) :
    Calls Try.prog 6 #[.slice none 0 0] w fun e w' => e = .returned (.slice none 0 0) ∧ w' = w := by
  have q22 : ∀ (w : World) (a : Option Addr) (n c n' c' : Nat), (binOp .eql 22 (.slice a n c) (.slice none n' c')).run Try.prog w = .ok (.bool a.isNone) w := fun w a n c n' c' => Lib.run_eql_slice_nil w _ _ a n c n' c' Try.underlying22
  go_enter Try.func6, Try.ntmps6
  go_wp2
  go_ret
  exact ⟨rfl, rfl⟩

/-- What the loop of the clone holds in its k-th round. -/
def Half (w : World) (b n : Nat) (f : Nat → Int) (k : Nat) (wr : World) : Prop :=
  Below w.heap.size w wr ∧ b < wr.heap.size ∧ (∀ i, wr.frozen? ⟨b, i, none⟩ = false) ∧ (∀ i, i < n → ∃ v, wr.cell? ⟨b, i, none⟩ = some (.int .u8 v)) ∧ ∀ i, i < k → wr.cell? ⟨b, i, none⟩ = some (.int .u8 (f i))

theorem Half.store {w wr : World} {n : Nat} {f : Nat → Int} {k : Nat} (h : Half w w.heap.size n f k wr) (hk : k < n) : Half w w.heap.size n f (k + 1) (wr.setCell ⟨w.heap.size, k, none⟩ (.int .u8 (f k))) := by
  obtain ⟨h1, h2, h3, h4, h5⟩ := h
  have hs : (wr.setCell ⟨w.heap.size, k, none⟩ (.int .u8 (f k))).cell? ⟨w.heap.size, k, none⟩ = some (.int .u8 (f k)) := by
    obtain ⟨v, hv⟩ := h4 k hk
    exact World.cell?_setCell_same _ _ _ hv
  have ho : ∀ i, i ≠ k → (wr.setCell ⟨w.heap.size, k, none⟩ (.int .u8 (f k))).cell? ⟨w.heap.size, i, none⟩ = wr.cell? ⟨w.heap.size, i, none⟩ := fun i hi =>
    World.cell?_setCell_other _ _ _ _ (by intro h; injection h with _ h2; omega)
  refine ⟨h1.setCell (Nat.le_refl _) _, by simpa using h2, fun i => by simpa using h3 i, fun i hi => ?_, fun i hi => ?_⟩
  · by_cases e : i = k
    · subst e; exact ⟨_, hs⟩
    · rw [ho i e]; exact h4 i hi
  · by_cases e : i = k
    · subst e; exact hs
    · rw [ho i e]; exact h5 i (by omega)

theorem half_start {w w1 : World} {n : Nat} {f : Nat → Int} (hown : w1.ownsRow w.heap.size 5 1 (.slice (some ⟨w.heap.size, 0, none⟩) n n) n (madeCells (Value.int .u8 0).cells (n * 1)).toList) (hg : w.grownBy w1 none) : Half w w.heap.size n f 0 w1 := by
  have hb : Below w.heap.size w w1 := (Below.refl _ _).grown hg (Nat.le_refl _) (by simp)
  refine ⟨hb, (hown.lt _ rfl).2, fun i => hown.frozenAt i, fun i hi => ⟨0, ?_⟩, fun i hi => by omega⟩
  rw [hown.cellAt i (by omega)]
  have e : (Value.int .u8 0).cells = #[.int .u8 0] := rfl
  rw [e, toList_madeCells_one, Nat.mul_one, List.getElem?_replicate, if_pos hi]

set_option maxHeartbeats 400000 in
theorem clone_some (x : Addr) (len cap : Nat) (f : Nat → Int) (w : World) (hr : RowAt w.heap.size w (some x) len f) (hl : len ≤ 524288) :
    Calls Try.prog 6 #[.slice (some x) len cap] w fun e w' => ∃ a', e = .returned (.slice a' len len) ∧ (a' = none → len = 0) ∧ RowAt w'.heap.size w' a' len f ∧ Below w.heap.size w w' := by
  have q22 : ∀ (w : World) (a : Option Addr) (n c n' c' : Nat), (binOp .eql 22 (.slice a n c) (.slice none n' c')).run Try.prog w = .ok (.bool a.isNone) w := fun w a n c n' c' => Lib.run_eql_slice_nil w _ _ a n c n' c' Try.underlying22
  obtain ⟨i0, hi, hz0, hz1, hz2⟩ := info_parts Try.info5
  have hb8 : i0.bytes * len ≤ 281474976710656 := by rw [hz2]; omega
  have hml : len ≤ maxLen := by unfold maxLen; omega
  rcases hr with h | ⟨b, off, e, hlt, hc⟩
  · subst h
    go_enter Try.func6, Try.ntmps6
    go_wp2_with (at_make; refine wpList_make_full _ rfl _ _ 22 rfl w.heap.size 5 i0 (.int .u8 0) 1 Try.underlying22 hi hz0 hz1 .i64 .i64 0 0 0 rfl rfl rfl rfl hb8 hml (Nat.le_refl _) ?_; intro w1 hown hgrow)
    refine wp_loop_rounds 1 ?_
    rw [rounds_succ]
    go_wp2
    go_ret
    exact ⟨_, rfl, by simp, .inl rfl, (half_start (f := f) hown hgrow).1⟩
  · simp only [Option.some.injEq] at e
    subst e
    go_enter Try.func6, Try.ntmps6
    go_wp2_with (at_make; refine wpList_make_full _ rfl _ _ 22 rfl w.heap.size 5 i0 (.int .u8 0) 1 Try.underlying22 hi hz0 hz1 .i64 .i64 len len len rfl rfl rfl rfl hb8 hml (Nat.le_refl _) ?_; intro w1 hown hgrow; have HS := half_start (f := f) hown hgrow; clear hown hgrow)
    go_loopw [4] (fun i wr => ∃ k : Nat, k ≤ len ∧ i = .int .i64 k ∧ Half w w.heap.size len f k wr) (fun i _ => len - (intOf i).toNat)
    case atStart => exact ⟨0, Nat.zero_le _, rfl, HS⟩
    case round =>
      obtain ⟨k, hk, rfl, hH⟩ := hrel
      by_cases hkl : k < len
      · have hst := hH.store hkl
        have hcx : wr.cell? ⟨b, off + k, none⟩ = some (.int .u8 (f k)) := (hH.1.cell (by exact hlt)).trans (hc k hkl)
        obtain ⟨v0, hv0⟩ := hH.2.2.2.1 k hkl
        have hf0 := hH.2.2.1 k
        clear hH hc HS
        go_wp2
        go_roundw
        case rel => exact ⟨k + 1, by omega, by go_num, hst⟩
        case measure => simp [intOf]; omega
      · have e : k = len := by omega
        subst e
        clear hc HS
        go_wp2
        go_ret
        exact ⟨_, rfl, by simp, .inr ⟨w.heap.size, 0, rfl, hH.2.1, fun i hi => by simpa using hH.2.2.2.2 i hi⟩, hH.1⟩

/-- The clone of a slice reads as the slice did. -/
theorem clone_any (a : Option Addr) (len cap : Nat) (f : Nat → Int) (w : World) (hn : a = none → len = 0 ∧ cap = 0) (hr : RowAt w.heap.size w a len f) (hl : len ≤ 524288) :
    Calls Try.prog 6 #[.slice a len cap] w fun e w' => ∃ a', e = .returned (.slice a' len len) ∧ (a' = none → len = 0 ∧ len = 0) ∧ RowAt w'.heap.size w' a' len f ∧ Below w.heap.size w w' := by
  cases a with
  | none =>
    obtain ⟨rfl, rfl⟩ := hn rfl
    refine (clone_nil w).mono fun e w' ⟨he, hw⟩ => ?_
    subst hw
    exact ⟨none, he, fun _ => ⟨rfl, rfl⟩, .inl rfl, Below.refl _ _⟩
  | some x =>
    refine (clone_some x len cap f w hr hl).mono ?_
    rintro e w' ⟨a', rfl, h1, h2, h3⟩
    exact ⟨a', rfl, fun h => ⟨h1 h, h1 h⟩, h2, h3⟩

/-! ### copyValue -/
/-- A row of the walk's own, from its block's head, not frozen. -/
def Own (w : World) (b n : Nat) (f : Nat → Int) : Prop := b < w.heap.size ∧ (∀ i, w.frozen? ⟨b, i, none⟩ = false) ∧ ∀ i, i < n → w.cell? ⟨b, i, none⟩ = some (.int .u8 (f i))

def u8s (f : Nat → Int) (n : Nat) : List Value := (List.range n).map fun i => .int .u8 (f i)

theorem length_u8s (f : Nat → Int) (n : Nat) : (u8s f n).length = n := by simp [u8s]
theorem get_u8s (f : Nat → Int) (n i : Nat) (h : i < n) : (u8s f n)[i]? = some (.int .u8 (f i)) := by simp [u8s, h]
theorem one_u8s (f : Nat → Int) (n : Nat) : ∀ v ∈ u8s f n, v.oneCell' = true := by
  intro v hv
  simp [u8s] at hv
  obtain ⟨i, _, rfl⟩ := hv
  rfl

theorem own_of {w : World} {g n : Nat} {f : Nat → Int} {cur : List Value} (hc : cur.length = n) (hm : n ≤ maxLen) (h : w.heap[g]? = some (.cells (splice cur 0 (u8s f n)).toArray 5 (0, 0))) : Own w g n f := by
  have e : splice cur 0 (u8s f n) = u8s f n := by
    simp [splice, length_u8s, ← hc]
  rw [e] at h
  have ho : w.ownsRow 0 5 1 (.slice (some ⟨g, 0, none⟩) n n) n (u8s f n) := ⟨by simp [length_u8s], .inr ⟨g, n, (u8s f n).toArray, rfl, Nat.zero_le _, h, Nat.le_refl _, hm, by simp [length_u8s], by
    simp only [Nat.mul_one]
    exact List.take_of_length_le (by simp [length_u8s])⟩⟩
  refine ⟨(ho.lt _ rfl).2, fun i => ho.frozenAt i, fun i hi => ?_⟩
  rw [ho.cellAt i (by omega)]
  exact get_u8s f n i hi

theorem made_heap {w w1 : World} {n : Nat} (hown : w1.ownsRow w.heap.size 5 1 (.slice (some ⟨w.heap.size, 0, none⟩) n n) n (madeCells (Value.int .u8 0).cells (n * 1)).toList) :
    ∃ cur : List Value, cur.length = n ∧ w1.heap[w.heap.size]? = some (.cells cur.toArray 5 (0, 0)) := by
  obtain ⟨_, h | ⟨g, cap, cur, e, _, hg, _, _, hs, _⟩⟩ := hown
  · simp at h
  · simp at e
    obtain ⟨rfl, rfl⟩ := e
    exact ⟨cur.toList, by simpa using hs, by simpa using hg⟩

end Go.Proofs.Qxb6003619a
