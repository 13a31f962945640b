/-
  keepRoles: the first loop's memory: the kept names and the new numbers.
-/
import Derived.Test.Qxb6605479aKMem
namespace Go.Proofs.Qxb6605479a
open Go.RowKit

/-- The names of the marked roles among the first k, in order. -/
def names (m : Nat → Bool) (ss : Nat → ByteArray) : Nat → List Value
  | 0 => []
  | k + 1 => if m k = true then names m ss k ++ [.string (ss k)] else names m ss k

theorem names_len (m : Nat → Bool) (ss : Nat → ByteArray) (k : Nat) : (names m ss k).length = cnt m k := by
  induction k with
  | zero => rfl
  | succ k ih => simp only [names, cnt]; split <;> simp [ih]

theorem names_at {m : Nat → Bool} {ss : Nat → ByteArray} {k x : Nat} (hx : x < k) (h : m x = true) : (names m ss k)[cnt m x]? = some (.string (ss x)) := by
  induction k with
  | zero => omega
  | succ k ih =>
    simp only [names]
    by_cases e : x = k
    · subst e
      rw [if_pos h, List.getElem?_append_right (by rw [names_len]; exact Nat.le_refl _), names_len]
      simp
    · have hi := ih (by omega)
      split
      · rw [List.getElem?_append_left (by rw [names_len]; exact cnt_lt (by omega) h)]; exact hi
      · exact hi

/-- The new numbers behind k rounds. -/
def rk (m : Nat → Bool) (k x : Nat) : Int := if x < k then rn m x else 0
theorem rk_skip {m : Nat → Bool} {k : Nat} (h : m k = false) (x : Nat) : rk m (k + 1) x = rk m k x := by
  unfold rk
  by_cases e : x = k
  · subst e; simp [rn, h]
  · by_cases h1 : x < k
    · rw [if_pos (by omega), if_pos h1]
    · rw [if_neg (by omega), if_neg h1]

/-- What the first loop holds in its k-th round. -/
def L1 (w : World) (R n : Nat) (m : Nat → Bool) (ss : Nat → ByteArray) (us : Value) (k : Nat) (v : Value) (wr : World) : Prop :=
  Below w.heap.size w wr ∧ w.heap.size < R ∧ R < wr.heap.size ∧ (∀ o, wr.frozen? ⟨w.heap.size, o, none⟩ = false) ∧ (∀ o, wr.frozen? ⟨R, o, none⟩ = false) ∧
  (∀ x, x < n → wr.cell? ⟨R, x, none⟩ = some (.int .i64 (rk m k x))) ∧
  (wr.cell? ⟨w.heap.size, 1, none⟩ = some us ∧ wr.cell? ⟨w.heap.size, 2, none⟩ = some (.slice none 0 0) ∧ wr.cell? ⟨w.heap.size, 3, none⟩ = some (.slice none 0 0) ∧ wr.cell? ⟨w.heap.size, 4, none⟩ = some (.slice none 0 0) ∧ wr.cell? ⟨w.heap.size, 5, none⟩ = some (.int .i64 0)) ∧
  wr.cell? ⟨w.heap.size, 0, none⟩ = some v ∧ wr.ownsRow (R + 1) 9 1 v (cnt m k) (names m ss k)

theorem L1.skip {w wr : World} {R n : Nat} {m : Nat → Bool} {ss : Nat → ByteArray} {us : Value} {k : Nat} {v : Value} (h : L1 w R n m ss us k v wr) (hm : m k = false) : L1 w R n m ss us (k + 1) v wr := by
  obtain ⟨a1, a2, a3, a4, a5, a6, a7, a8, a9⟩ := h
  refine ⟨a1, a2, a3, a4, a5, fun x hx => by rw [rk_skip hm]; exact a6 x hx, a7, a8, ?_⟩
  simpa [cnt, names, hm] using a9

theorem L1.far {w wr w1 : World} {R n : Nat} {m : Nat → Bool} {ss : Nat → ByteArray} {us : Value} {k j : Nat} {u v : Value} {o : Obj} (h : L1 w R n m ss us k v wr) (hg : ((wr.setCell ⟨R, j, none⟩ u).alloc o).grownBy w1 v.ownBlock) :
    Below (R + 1) (wr.setCell ⟨R, j, none⟩ u) w1 := by
  have hrow : ∀ g, v.ownBlock = some g → R + 1 ≤ g := fun g hg => (h.2.2.2.2.2.2.2.2.lt g hg).1
  have hR := h.2.2.1
  exact ((Below.refl _ _).alloc (by simp; omega) o).grown hg (by simp; omega) hrow

theorem L1.after {w wr w1 : World} {R n : Nat} {m : Nat → Bool} {ss : Nat → ByteArray} {us : Value} {k j : Nat} {u v : Value} {o : Obj} (h : L1 w R n m ss us k v wr) (hg : ((wr.setCell ⟨R, j, none⟩ u).alloc o).grownBy w1 v.ownBlock) :
    w1.cell? ⟨w.heap.size, 0, none⟩ = some v ∧ w1.frozen? ⟨w.heap.size, 0, none⟩ = false := by
  have hB := h.far hg
  obtain ⟨a1, a2, a3, a4, a5, a6, a7, a8, a9⟩ := h
  exact ⟨(hB.cell (by show w.heap.size < _; omega)).trans (by rw [cell_far _ (by omega)]; exact a8), (hB.frozen (by show w.heap.size < _; omega)).trans (by rw [World.frozen?_setCell]; exact a4 0)⟩

theorem L1.push {w wr w1 : World} {R n : Nat} {m : Nat → Bool} {ss : Nat → ByteArray} {us : Value} {k : Nat} {v v' : Value} {o : Obj} (h : L1 w R n m ss us k v wr) (hk : k < n) (hm : m k = true)
    (hg : ((wr.setCell ⟨R, k, none⟩ (.int .i64 (cnt m k : Nat))).alloc o).grownBy w1 v.ownBlock) (hown : w1.ownsRow (R + 1) 9 1 v' (cnt m k + 1) (names m ss k ++ [.string (ss k)])) :
    L1 w R n m ss us (k + 1) v' (w1.setCell ⟨w.heap.size, 0, none⟩ v') := by
  have hB := h.far hg
  have haf := h.after hg
  obtain ⟨a1, a2, a3, a4, a5, a6, ⟨b1, b2, b3, b4, b5⟩, a8, a9⟩ := h
  have hs := hB.size
  simp only [World.size_setCell] at hs
  have hex : ∃ u, w1.cell? ⟨w.heap.size, 0, none⟩ = some u := ⟨_, haf.1⟩
  have kc : ∀ q, q ≠ 0 → (w1.setCell ⟨w.heap.size, 0, none⟩ v').cell? ⟨w.heap.size, q, none⟩ = wr.cell? ⟨w.heap.size, q, none⟩ := fun q hq => by
    rw [cell_set _ hex, if_neg hq, hB.cell (by show w.heap.size < _; omega), cell_far _ (by omega)]
  have bW : Below w.heap.size w (w1.setCell ⟨w.heap.size, 0, none⟩ v') := ((a1.setCell (by show w.heap.size ≤ R; omega) _).trans (hB.mono (by omega))).setCell (Nat.le_refl _) _
  refine ⟨bW, a2, by simp; omega, fun q => ?_, fun q => ?_, fun x hx => ?_, ⟨by rw [kc 1 (by omega)]; exact b1, by rw [kc 2 (by omega)]; exact b2, by rw [kc 3 (by omega)]; exact b3, by rw [kc 4 (by omega)]; exact b4, by rw [kc 5 (by omega)]; exact b5⟩, ?_, ?_⟩
  · rw [World.frozen?_setCell, hB.frozen (by show w.heap.size < _; omega), World.frozen?_setCell]; exact a4 q
  · rw [World.frozen?_setCell, hB.frozen (by show R < _; omega), World.frozen?_setCell]; exact a5 q
  · rw [cell_far _ (by omega), hB.cell (by show R < _; omega), cell_set _ ⟨_, a6 k hk⟩]
    by_cases e : x = k
    · subst e; rw [if_pos rfl]; simp [rk, rn, hm]
    · rw [if_neg e, a6 x hx]
      unfold rk
      by_cases h1 : x < k
      · rw [if_pos h1, if_pos (by omega)]
      · rw [if_neg h1, if_neg (by omega)]
  · rw [cell_set _ hex, if_pos rfl]
  · have e1 : cnt m (k + 1) = cnt m k + 1 := by simp [cnt, hm]
    have e2 : names m ss (k + 1) = names m ss k ++ [.string (ss k)] := by simp [names, hm]
    rw [e1, e2]
    exact ownsRow_setCell_below hown (by show w.heap.size < _; omega) _

/-- The start: the box of the kept policy, the row of new numbers. -/
theorem l1_start {w w2 : World} {n : Nat} {m : Nat → Bool} {ss : Nat → ByteArray} {us : Value} {w1 : World} {t : TypeId} (hw1 : w1 = w.alloc (Obj.cells #[.slice none 0 0, us, .slice none 0 0, .slice none 0 0, .slice none 0 0, .int .i64 0] t))
    (hown : w2.ownsRow w1.heap.size 3 1 (.slice (some ⟨w1.heap.size, 0, none⟩) n n) n (madeCells (Value.int .i64 0).cells (n * 1)).toList) (hg : w1.grownBy w2 none) : L1 w w1.heap.size n m ss us 0 (.slice none 0 0) w2 := by
  have ho := own_start hown hg
  have hs : w1.heap.size = w.heap.size + 1 := by rw [hw1]; simp
  have hb : Below w.heap.size w w1 := by rw [hw1]; exact (Below.refl _ _).alloc (Nat.le_refl _) _
  have kc : ∀ q, w2.cell? ⟨w.heap.size, q, none⟩ = (#[.slice none 0 0, us, .slice none 0 0, .slice none 0 0, .slice none 0 0, .int .i64 0] : Array Value)[q]? := fun q => by
    rw [ho.1.cell (by show w.heap.size < _; omega), hw1]; exact World.cell?_alloc_new _ _ _ _
  refine ⟨hb.trans (ho.1.mono (by omega)), by omega, ho.2.1, fun q => ?_, ho.2.2.1, fun x hx => ?_, ⟨kc 1, kc 2, kc 3, kc 4, kc 5⟩, kc 0, World.ownsRow_nil _ _ _ _⟩
  · rw [ho.1.frozen (by show w.heap.size < _; omega), hw1]; exact World.frozen?_alloc_new _ _ _ _
  · rw [hown.cellAt x (by omega)]
    have e : (Value.int .i64 0).cells = #[.int .i64 0] := rfl
    rw [e, toList_madeCells_one, Nat.mul_one, List.getElem?_replicate, if_pos hx]
    simp [rk]

end Go.Proofs.Qxb6605479a
