/-
  keepRoles: contract.
-/
import Derived.Test.Qxb6605479aRg15
import Derived.Test.Qxb6605479aRg21
import Derived.Test.Qxb6605479aRg33
import Derived.Deep.RegionLaw
import Derived.Deep.RegionHeld3
import Derived.Deep.DrawnRows
namespace Go.Proofs.Qxb6605479a
open Go.RowKit
attribute [local go_sem ↓] Go.wp_at_zero Go.wp_at_succ


theorem only_normal {P : Program} {c : Code} {Q : Exit → Act → World → Prop} {a : Act} {w : World} (h : Code.wp P c (OnlyN (Q .normal)) a w) : Code.wp P c Q a w :=
  Code.wp_mono (fun e a w hq => by cases e <;> first | exact hq | exact hq.elim) h

theorem bools_cell' {B : Nat} {w : World} {M n x : Nat} {m : Nat → Bool} (h : BoolsAt B w (some ⟨M, 0, none⟩) n m) (hx : x < n) : w.cell? ⟨M, x, none⟩ = some (.bool (m x)) := by
  rcases h with h | ⟨b, off, e, _, hc⟩
  · omega
  · simp at e
    obtain ⟨rfl, rfl⟩ := e
    simpa using hc x hx
theorem bools_lt' {B : Nat} {w : World} {M n x : Nat} {m : Nat → Bool} (h : BoolsAt B w (some ⟨M, 0, none⟩) n m) (hx : x < n) : M < B := by
  rcases h with h | ⟨b, off, e, hb, _⟩
  · omega
  · simp at e
    omega

/-- What a slice that owns n elements looks like. -/
theorem owns_form {w : World} {base : Nat} {e : TypeId} {size : Nat} {v : Value} {n : Nat} {xs : List Value} (h : w.ownsRow base e size v n xs) : ∃ ao cap, v = .slice ao n cap := by
  rcases h.2 with ⟨hv, h0⟩ | ⟨g, cap, cur, hv, _⟩
  · exact ⟨none, 0, by rw [hv, h0]⟩
  · exact ⟨_, cap, hv⟩

/-- The kept policy between the loops: the fields from q on, up to CA, are nil still. -/
def KB (w : World) (R n goal q : Nat) (m : Nat → Bool) (ss : Nat → ByteArray) (wb : World) : Prop :=
  Below w.heap.size w wb ∧ (w.heap.size < R ∧ R < wb.heap.size) ∧ (∀ o, wb.frozen? ⟨w.heap.size, o, none⟩ = false) ∧ (∀ x, x < n → wb.cell? ⟨R, x, none⟩ = some (.int .i64 (rn m x))) ∧
  (∀ p, q ≤ p → p < 5 → wb.cell? ⟨w.heap.size, p, none⟩ = some (.slice none 0 0)) ∧ wb.cell? ⟨w.heap.size, 5, none⟩ = some (.int .i64 (cnt m goal : Nat)) ∧
  ∃ rb rc, wb.cell? ⟨w.heap.size, 0, none⟩ = some (.slice (some ⟨rb, 0, none⟩) (cnt m n) rc) ∧ wb.cell? ⟨rb, cnt m goal, none⟩ = some (.string (ss goal)) ∧ R < rb ∧ rb < wb.heap.size

theorem kb_start {w wr wb : World} {R n goal : Nat} {m : Nat → Bool} {ss : Nat → ByteArray} {us v : Value} (h : L1 w R n m ss us n v wr) (hg : goal < n) (hm : m goal = true) (hwb : wb = wr.setCell ⟨w.heap.size, 5, none⟩ (.int .i64 (cnt m goal : Nat))) : KB w R n goal 2 m ss wb := by
  obtain ⟨a1, a2, a3, a4, a5, a6, ⟨b1, b2, b3, b4, b5⟩, a8, a9⟩ := h
  have hpos := cnt_lt hg hm
  obtain ⟨rb, rc, e, hrb, hrl⟩ := a9.form (by omega)
  rw [e] at a8 a9
  have hk : ∀ p, wb.cell? ⟨w.heap.size, p, none⟩ = if p = 5 then some (.int .i64 (cnt m goal : Nat)) else wr.cell? ⟨w.heap.size, p, none⟩ := fun p => by rw [hwb, cell_set _ ⟨_, b5⟩]
  have hf : ∀ p o, p ≠ w.heap.size → wb.cell? ⟨p, o, none⟩ = wr.cell? ⟨p, o, none⟩ := fun p o hp => by rw [hwb, cell_far _ hp]
  have hs : wb.heap.size = wr.heap.size := by rw [hwb]; simp
  refine ⟨by rw [hwb]; exact a1.setCell (Nat.le_refl _) _, ⟨a2, by omega⟩, fun o => by rw [hwb]; simpa using a4 o, fun x hx => ?_, fun p h1 h2 => ?_, by rw [hk, if_pos rfl], rb, rc, ?_, ?_, by omega, by omega⟩
  · rw [hf _ _ (by omega), a6 x hx]; simp [rk, hx]
  · rw [hk, if_neg (by omega)]
    obtain rfl | rfl | rfl : p = 2 ∨ p = 3 ∨ p = 4 := by omega
    · exact b2
    · exact b3
    · exact b4
  · rw [hk, if_neg (by omega)]; exact a8
  · rw [hf _ _ (by omega), a9.cellAt _ (by omega)]
    exact names_at hg hm

/-- The next loop's start. -/
theorem KB.next {w wb wr : World} {R n goal q : Nat} {m : Nat → Bool} {ss : Nat → ByteArray} {e : TypeId} {size k : Nat} {xs : List Value} {v : Value} (h : KB w R n goal q m ss wb) (hF : FS wb w.heap.size q e size k xs v wr) (hq : 2 ≤ q) (hq5 : q < 5) : KB w R n goal (q + 1) m ss wr := by
  obtain ⟨a1, ⟨a2, a2'⟩, a3, a4, a5, a6, rb, rc, a7, a8, a9, a10⟩ := h
  obtain ⟨c1, c2, c3, c4, c5, c6⟩ := hF
  have hs := c1.size
  refine ⟨a1.trans (c1.below (Nat.le_of_lt c2) (Nat.le_refl _)), ⟨a2, by omega⟩, c3, fun x hx => (c1.cell a2' (by omega)).trans (a4 x hx), fun p h1 h2 => (c4 p (by omega)).trans (a5 p (by omega) h2), (c4 5 (by omega)).trans a6, rb, rc, (c4 0 (by omega)).trans a7, (c1.cell a10 (by omega)).trans a8, a9, by omega⟩

/-- A cell of the call's arguments, in the round. -/
theorem old_cell {w wb wr : World} {K p o : Nat} {u : Value} (h1 : Below w.heap.size w wb) (hK : K = w.heap.size) (h2 : BX wb.heap.size K wb wr) (hp : p < w.heap.size) (hc : w.cell? ⟨p, o, none⟩ = some u) : wr.cell? ⟨p, o, none⟩ = some u :=
  (h2.cell (Nat.lt_of_lt_of_le hp h1.size) (by omega)).trans ((h1.cell (by exact hp)).trans hc)

/-- A record copied into a block of its own: what it holds, and what is as it was. -/
theorem copy_block {wr X : World} {cs : Array Value} {t : TypeId} (hX : X = wr.alloc (Obj.cells cs t)) :
    (∀ q u, cs[q]? = some u → X.cell? ⟨wr.heap.size, q, none⟩ = some u) ∧ Below wr.heap.size wr X ∧ wr.heap.size < X.heap.size := by
  refine ⟨fun q u hq => by rw [hX, World.cell?_alloc_new]; exact hq, by rw [hX]; exact (Below.refl _ _).alloc (Nat.le_refl _) _, by rw [hX]; simp⟩

theorem kel_skip {rol : Nat → Int} {m : Nat → Bool} {k : Nat} (h : m (rol k).toNat = false) : kel rol m (k + 1) = kel rol m k := by simp [kel, h]
theorem kel_take {rol : Nat → Int} {m : Nat → Bool} {k : Nat} (h : m (rol k).toNat = true) : kel rol m (k + 1) = kel rol m k ++ [k] := by simp [kel, h]

def rowCR (f g : Nat → Int) (m : Nat → Bool) (xs : List Nat) : List Value := rowP (fun i => .int .i64 (rn m (f i).toNat)) (fun i => .int .i64 (rn m (g i).toNat)) xs

theorem cr_push {wb wr X w1 : World} {K k : Nat} {f g : Nat → Int} {m : Nat → Bool} {v v' : Value} {o : Obj} (hm : m (g k).toNat = true) (h : FS wb K 3 69 2 (kel g m k).length (rowCR f g m (kel g m k)) v wr) (hX : Below wr.heap.size wr X) (hg : ((X.alloc o).drew).grownBy w1 v.ownBlock)
    (hown : w1.ownsRow wb.heap.size 69 2 v' ((kel g m k).length + 1) (rowCR f g m (kel g m k) ++ [.int .i64 (rn m (f k).toNat), .int .i64 (rn m (g k).toNat)])) :
    FS wb K 3 69 2 (kel g m (k + 1)).length (rowCR f g m (kel g m (k + 1))) v' (w1.setCell ⟨K, 3, none⟩ v') := by
  have e1 : (kel g m (k + 1)).length = (kel g m k).length + 1 := by rw [kel_take hm]; simp
  have e2 : rowCR f g m (kel g m (k + 1)) = rowCR f g m (kel g m k) ++ [.int .i64 (rn m (f k).toNat), .int .i64 (rn m (g k).toNat)] := by rw [kel_take hm]; simp [rowCR, rowP, List.flatMap_append]
  rw [e1, e2]
  exact h.push (hX.alloc hX.size _).drew hg hown

/-- Pairs of ints in a block of the call's own, not the kept policy's. -/
def PX (K : Nat) (w : World) (a : Option Addr) (n : Nat) (f g : Nat → Int) : Prop :=
  n = 0 ∨ ∃ b, a = some ⟨b, 0, none⟩ ∧ K < b ∧ b < w.heap.size ∧ ∀ i, i < n → w.cell? ⟨b, i * 2, none⟩ = some (.int .i64 (f i)) ∧ w.cell? ⟨b, i * 2 + 1, none⟩ = some (.int .i64 (g i))

theorem cr_done {wb wr : World} {K l : Nat} {f g : Nat → Int} {m : Nat → Bool} {v : Value} (h : FS wb K 3 69 2 (kel g m l).length (rowCR f g m (kel g m l)) v wr) :
    ∃ a c, wr.cell? ⟨K, 3, none⟩ = some (.slice a (kel g m l).length c) ∧ PX K wr a (kel g m l).length (keptF m (kel g m l) f) (keptF m (kel g m l) g) := by
  obtain ⟨c1, c2, c3, c4, c5, c6⟩ := h
  obtain ⟨ao, cap, rfl⟩ := owns_form c6
  refine ⟨ao, cap, c5, ?_⟩
  by_cases h0 : (kel g m l).length = 0
  · exact .inl h0
  · obtain ⟨gb, cap', e, hgb, hlt⟩ := c6.form (by omega)
    simp only [Value.slice.injEq] at e
    obtain ⟨rfl, _, rfl⟩ := e
    refine .inr ⟨gb, rfl, by omega, hlt, fun i hi => ?_⟩
    obtain ⟨r1, r2⟩ := rowP_at (fun i => Value.int .i64 (rn m (f i).toNat)) (fun i => Value.int .i64 (rn m (g i).toNat)) (kel g m l) i hi
    exact ⟨(c6.cellAt _ (by omega)).trans r1, (c6.cellAt _ (by omega)).trans r2⟩

theorem PX.later {K : Nat} {w w' : World} {a : Option Addr} {n : Nat} {f g : Nat → Int} (h : PX K w a n f g) (hb : BX w.heap.size K w w') : PX K w' a n f g := by
  rcases h with h | ⟨b, rfl, h1, h2, h3⟩
  · exact .inl h
  · exact .inr ⟨b, rfl, h1, Nat.lt_of_lt_of_le h2 hb.size, fun i hi => ⟨(hb.cell h2 (by omega)).trans (h3 i hi).1, (hb.cell h2 (by omega)).trans (h3 i hi).2⟩⟩

theorem PX.pairs {K : Nat} {w : World} {a : Option Addr} {n : Nat} {f g : Nat → Int} (h : PX K w a n f g) : PairsAt w.heap.size w a n f g := by
  rcases h with h | ⟨b, rfl, h1, h2, h3⟩
  · exact .inl h
  · exact .inr ⟨b, 0, rfl, h2, fun i hi => by simpa using h3 i hi⟩

def rowCA (D : Rules) (m : Nat → Bool) (pbf : Nat → Nat) (xs : List Nat) : List Value :=
  rowT (fun i => .int .i64 (rn m (D.adm i).toNat)) (fun i => .slice (some ⟨pbf i, 0, none⟩) (D.pl i) (D.pl i)) (fun i => .int .i64 (rn m (D.rol i).toNat)) xs

/-- The literals of one kept rule, in a block of their own. -/
def PreO (B : Nat) (D : Rules) (m : Nat → Bool) (i p : Nat) (v : Value) (wr : World) : Prop :=
  B ≤ p ∧ p < wr.heap.size ∧ v.ownBlock ≠ some p ∧ ∀ j, j < D.pl i → wr.cell? ⟨p, j * 2, none⟩ = some (.int .i64 (rn m (D.lit i j).toNat)) ∧ wr.cell? ⟨p, j * 2 + 1, none⟩ = some (.bool (D.neg i j))

def FC (wb : World) (K : Nat) (D : Rules) (m : Nat → Bool) (k : Nat) (pbf : Nat → Nat) (v : Value) (wr : World) : Prop :=
  FS wb K 4 72 3 (kel D.rol m k).length (rowCA D m pbf (kel D.rol m k)) v wr ∧ ∀ i ∈ kel D.rol m k, PreO wb.heap.size D m i (pbf i) v wr

theorem FC.later {wb wr X : World} {K : Nat} {D : Rules} {m : Nat → Bool} {k : Nat} {pbf : Nat → Nat} {v : Value} (h : FC wb K D m k pbf v wr) (hX : Below wr.heap.size wr X) : FC wb K D m k pbf v X :=
  ⟨h.1.later hX, fun i hi => by
    obtain ⟨a1, a2, a3, a4⟩ := h.2 i hi
    exact ⟨a1, Nat.lt_of_lt_of_le a2 hX.size, a3, fun j hj => ⟨(hX.cell (by exact a2)).trans (a4 j hj).1, (hX.cell (by exact a2)).trans (a4 j hj).2⟩⟩⟩

theorem rowCA_congr {D : Rules} {m : Nat → Bool} {p p' : Nat → Nat} {xs : List Nat} (h : ∀ i ∈ xs, p i = p' i) : rowCA D m p xs = rowCA D m p' xs := by
  unfold rowCA rowT
  induction xs with
  | nil => rfl
  | cons x xs ih =>
    rw [List.flatMap_cons, List.flatMap_cons, ih fun i hi => h i (List.mem_cons_of_mem _ hi)]
    simp only [h x (by simp)]

theorem FC.push {wb wr Y w1 : World} {K : Nat} {D : Rules} {m : Nat → Bool} {k : Nat} {pbf : Nat → Nat} {v : Value} {P gg cap : Nat} {o : Obj} (h : FC wb K D m k pbf v wr) (hm : m (D.rol k).toNat = true) (hY : Below wr.heap.size wr Y) (hg : ((Y.alloc o).drew).grownBy w1 v.ownBlock)
    (hP1 : wr.heap.size ≤ P) (hP2 : P < Y.heap.size) (hP3 : ∀ j, j < D.pl k → Y.cell? ⟨P, j * 2, none⟩ = some (.int .i64 (rn m (D.lit k j).toNat)) ∧ Y.cell? ⟨P, j * 2 + 1, none⟩ = some (.bool (D.neg k j)))
    (hat : v.ownBlock = some gg ∨ gg = Y.heap.size + 1)
    (hown : w1.ownsRow wb.heap.size 72 3 (.slice (some ⟨gg, 0, none⟩) ((kel D.rol m k).length + 1) cap) ((kel D.rol m k).length + 1) (rowCA D m pbf (kel D.rol m k) ++ [.int .i64 (rn m (D.adm k).toNat), .slice (some ⟨P, 0, none⟩) (D.pl k) (D.pl k), .int .i64 (rn m (D.rol k).toNat)])) :
    FC wb K D m (k + 1) (fun i => if i = k then P else pbf i) (.slice (some ⟨gg, 0, none⟩) ((kel D.rol m k).length + 1) cap) (w1.setCell ⟨K, 4, none⟩ (.slice (some ⟨gg, 0, none⟩) ((kel D.rol m k).length + 1) cap)) := by
  obtain ⟨hF, hp⟩ := h
  have hv : ∀ q, v.ownBlock = some q → wb.heap.size ≤ q ∧ q < wr.heap.size := fun q hq => hF.2.2.2.2.2.lt q hq
  have hK : K < wb.heap.size := hF.2.1
  have hwb : wb.heap.size ≤ wr.heap.size := hF.1.size
  have hYs := hY.size
  have hb : Below Y.heap.size Y ((Y.alloc o).drew) := ((Below.refl _ _).alloc (Nat.le_refl _) o).drew
  have hsz : ((Y.alloc o).drew).heap.size = Y.heap.size + 1 := by simp
  have hs1 : Y.heap.size + 1 ≤ w1.heap.size := by have := hg.size; omega
  have e1 : (kel D.rol m (k + 1)).length = (kel D.rol m k).length + 1 := by rw [kel_take hm]; simp
  have hnk : ∀ i ∈ kel D.rol m k, i ≠ k := fun i hi => by have := (mem_kel.1 hi).1; omega
  have e2 : rowCA D m (fun i => if i = k then P else pbf i) (kel D.rol m (k + 1)) = rowCA D m pbf (kel D.rol m k) ++ [.int .i64 (rn m (D.adm k).toNat), .slice (some ⟨P, 0, none⟩) (D.pl k) (D.pl k), .int .i64 (rn m (D.rol k).toNat)] := by
    rw [kel_take hm]
    have : rowCA D m (fun i => if i = k then P else pbf i) (kel D.rol m k ++ [k]) = rowCA D m (fun i => if i = k then P else pbf i) (kel D.rol m k) ++ rowCA D m (fun i => if i = k then P else pbf i) [k] := by simp [rowCA, rowT, List.flatMap_append]
    rw [this, rowCA_congr (p' := pbf) fun i hi => by rw [if_neg (hnk i hi)]]
    simp [rowCA, rowT]
  -- a block that is neither the row's nor the policy's reads as it did
  have far : ∀ q j, q < Y.heap.size → v.ownBlock ≠ some q → q ≠ K → (w1.setCell ⟨K, 4, none⟩ (.slice (some ⟨gg, 0, none⟩) ((kel D.rol m k).length + 1) cap)).cell? ⟨q, j, none⟩ = Y.cell? ⟨q, j, none⟩ := fun q j h1 h2 h3 => by
    rw [cell_far _ h3, hg.cell_far _ (by show q < _; omega) (fun e => h2 e.symm), hb.cell (by exact h1)]
  refine ⟨by rw [e1, e2]; exact hF.push (hY.alloc hY.size o).drew hg hown, fun i hi => ?_⟩
  have hgg : ∀ q, q < Y.heap.size + 1 → v.ownBlock ≠ some q → (Value.slice (some ⟨gg, 0, none⟩) ((kel D.rol m k).length + 1) cap).ownBlock ≠ some q := fun q h1 h2 e => by
    have : gg = q := Option.some.inj e
    rcases hat with h | h
    · exact h2 (this ▸ h)
    · omega
  dsimp only
  by_cases e : i = k
  · subst e
    rw [if_pos rfl]
    have hPv : v.ownBlock ≠ some P := fun e => by have := (hv P e).2; omega
    exact ⟨by omega, by simp; omega, hgg P (by omega) hPv, fun j hj => by rw [far P _ hP2 hPv (by omega), far P _ hP2 hPv (by omega)]; exact hP3 j hj⟩
  · rw [if_neg e]
    have hik : i ∈ kel D.rol m k := by
      rw [kel_take hm, List.mem_append] at hi
      rcases hi with hi | hi
      · exact hi
      · simp at hi; exact absurd hi e
    obtain ⟨a1, a2, a3, a4⟩ := hp i hik
    exact ⟨a1, by simp; omega, hgg _ (by omega) a3, fun j hj => by
      rw [far _ _ (by omega) a3 (by omega), far _ _ (by omega) a3 (by omega), hY.cell (by exact a2), hY.cell (by exact a2)]; exact a4 j hj⟩

theorem fc_done {wb wr : World} {K : Nat} {D : Rules} {m : Nat → Bool} {pbf : Nat → Nat} {v : Value} (h : FC wb K D m D.n pbf v wr) :
    ∃ a c, wr.cell? ⟨K, 4, none⟩ = some (.slice a (keptD D m).n c) ∧ CAat wr.heap.size wr a (keptD D m) := by
  obtain ⟨⟨c1, c2, c3, c4, c5, c6⟩, hp⟩ := h
  obtain ⟨ao, cap, rfl⟩ := owns_form c6
  refine ⟨ao, cap, c5, ?_⟩
  by_cases h0 : (kel D.rol m D.n).length = 0
  · exact .inl h0
  · obtain ⟨gb, cap', e, hgb, hlt⟩ := c6.form (by omega)
    simp only [Value.slice.injEq] at e
    obtain ⟨rfl, _, rfl⟩ := e
    refine .inr ⟨gb, 0, rfl, hlt, fun i hi => ?_⟩
    have hi' : i < (kel D.rol m D.n).length := hi
    obtain ⟨r1, r2, r3⟩ := rowT_at (fun i => Value.int .i64 (rn m (D.adm i).toNat)) (fun i => Value.slice (some ⟨pbf i, 0, none⟩) (D.pl i) (D.pl i)) (fun i => Value.int .i64 (rn m (D.rol i).toNat)) (kel D.rol m D.n) i hi'
    obtain ⟨a1, a2, a3, a4⟩ := hp _ (getD_mem hi')
    rw [Nat.zero_add]
    exact ⟨some ⟨pbf ((kel D.rol m D.n).getD i 0), 0, none⟩, D.pl ((kel D.rol m D.n).getD i 0), (c6.cellAt _ (by omega)).trans r1, (c6.cellAt _ (by omega)).trans r2, (c6.cellAt _ (by omega)).trans r3, by simp, .inr ⟨_, 0, rfl, a2, fun j hj => by rw [Nat.zero_add]; exact a4 j hj⟩⟩

theorem HalfP.alloc {w wr : World} {n : Nat} {f g : Nat → Value} {k : Nat} (h : HalfP w n f g k wr) (o : Obj) : HalfP w n f g k (wr.alloc o) := by
  have hb : Below wr.heap.size wr (wr.alloc o) := (Below.refl _ _).alloc (Nat.le_refl _) o
  obtain ⟨⟨a1, a2, a3, a4⟩, a5⟩ := h
  exact ⟨⟨a1.alloc (Nat.le_of_lt a2) o, Nat.lt_of_lt_of_le a2 hb.size, fun q => (hb.frozen (by exact a2)).trans (a3 q), fun q hq => by rw [hb.cell (by exact a2)]; exact a4 q hq⟩, fun i hi => ⟨(hb.cell (by exact a2)).trans (a5 i hi).1, (hb.cell (by exact a2)).trans (a5 i hi).2⟩⟩

def KP (w w' : World) (K n goal : Nat) (m : Nat → Bool) (ss : Nat → ByteArray) (D : Rules) (l : Nat) (f g : Nat → Int) : Prop :=
  K < w'.heap.size ∧ Below w.heap.size w w' ∧ (∃ rb rc, w'.cell? ⟨K, 0, none⟩ = some (.slice (some ⟨rb, 0, none⟩) (cnt m n) rc) ∧ w'.cell? ⟨rb, cnt m goal, none⟩ = some (.string (ss goal))) ∧
  (∃ a c, w'.cell? ⟨K, 3, none⟩ = some (.slice a (kel g m l).length c) ∧ PairsAt w'.heap.size w' a (kel g m l).length (keptF m (kel g m l) f) (keptF m (kel g m l) g)) ∧
  (∃ a c, w'.cell? ⟨K, 4, none⟩ = some (.slice a (keptD D m).n c) ∧ CAat w'.heap.size w' a (keptD D m)) ∧ w'.cell? ⟨K, 5, none⟩ = some (.int .i64 (cnt m goal : Nat))

set_option maxRecDepth 100000 in
set_option maxHeartbeats 16000000 in
theorem keep_any (n goal pb M : Nat) (ra ua aa a0 a1 : Option Addr) (rc ul uc al ac c0 l c1 : Nat) (m : Nat → Bool) (ss : Nat → ByteArray) (uf ug : Nat → Int) (D : Rules) (f g : Nat → Int) (w : World)
    (hp0 : w.cell? ⟨pb, 0, none⟩ = some (.slice ra n rc)) (hp1 : w.cell? ⟨pb, 1, none⟩ = some (.slice ua ul uc)) (hp2 : w.cell? ⟨pb, 2, none⟩ = some (.slice aa al ac)) (hp5 : w.cell? ⟨pb, 5, none⟩ = some (.int .i64 (goal : Int))) (hpb : pb < w.heap.size)
    (hs : StrsAt w.heap.size w ra n ss) (hua : PairsAt w.heap.size w aa al uf ug) (hbo : BoolsAt w.heap.size w (some ⟨M, 0, none⟩) n m) (hca : CAat w.heap.size w a0 D) (hcr : PairsAt w.heap.size w a1 l f g)
    (hn : n ≤ 65536) (hg : goal < n) (hmg : m goal = true) (hal : al ≤ 65536) (hdn : D.n ≤ 65536) (hpl : ∀ i, i < D.n → D.pl i ≤ 65536) (hl : l ≤ 65536)
    (hui : RolesIn al ug n) (hci : RulesIn D.n D n) (hri : PairsIn l f g n) :
    Calls Try.prog 43 #[.pointer (some ⟨pb, 0, none⟩), .slice (some ⟨M, 0, none⟩) n n, .slice a0 D.n c0, .slice a1 l c1] w fun e w' => ∃ K, e = .returned (.pointer (some ⟨K, 0, none⟩)) ∧ KP w w' K n goal m ss D l f g := by
  obtain ⟨i3, hi3, hx0, hx1, hx2⟩ := info_parts Try.info3
  have hb3 : i3.bytes * n ≤ 281474976710656 := by rw [hx2]; omega
  have hml : n ≤ maxLen := by unfold maxLen; omega
  obtain ⟨i9, hi9, hs0, hs1, hs2⟩ := info_parts Try.info9
  have hMlt : M < w.heap.size := bools_lt' hbo hg
  go_enter Try.func43, Try.ntmps43
  go_wp2_with (at_make; refine wpList_make_full _ rfl _ _ 64 rfl _ 3 i3 (.int .i64 0) 1 Try.underlying64 hi3 hx0 hx1 .i64 .i64 n n n rfl rfl rfl rfl hb3 hml (Nat.le_refl _) ?_; intro w2 hown hgrow; have HS := l1_start (m := m) (ss := ss) rfl hown hgrow; simp only [World.size_alloc] at HS; have hp0' := (HS.1.cell (p := ⟨pb, 0, none⟩) hpb).trans hp0; clear hown hgrow)
  clear hp0' hp0 hp1
  go_loopw [39] (fun t wr => ∃ (k : Nat) (v : Value), k ≤ n ∧ t = .int .i64 k ∧ L1 w (w.heap.size + 1) n m ss (.slice ua ul uc) k v wr) (fun t _ => n - (intOf t).toNat)
  case atStart => exact ⟨0, _, Nat.zero_le _, rfl, HS⟩
  case round =>
    clear HS hi3 hx0 hx1 hx2 hb3 hml
    obtain ⟨k, v, hk, rfl, hL⟩ := hrel
    by_cases hkl : k < n
    · --[l1
      rcases hs with h0 | ⟨b, off, rfl, hlt, hc⟩
      · omega
      have cS : wr.cell? ⟨b, off + k, none⟩ = some (.string (ss k)) := (hL.1.cell (by exact hlt)).trans (hc k hkl)
      have cM : wr.cell? ⟨M, k, none⟩ = some (.bool (m k)) := (hL.1.cell (by exact hMlt)).trans (bools_cell' hbo hkl)
      have hcl := cnt_le m k
      clear hc
      cases hmk : m k
      · rw [hmk] at cM
        have hL' := hid (hL.skip hmk)
        clear hL hmk hbo hua hca hcr hui hci hri hpl hp2 hp5 hmg
        go_wp2
        go_roundw
        case rel => exact ⟨k + 1, v, by omega, by go_num, hL'.out⟩
        case measure => simp [intOf]; omega
      · rw [hmk] at cM
        obtain ⟨ao, cap, rfl⟩ : ∃ ao cap, v = .slice ao (cnt m k) cap := owns_form hL.2.2.2.2.2.2.2.2
        have cK := hL.2.2.2.2.2.2.2.1
        have cR := hL.2.2.2.2.2.1 k hkl
        have fR := hL.2.2.2.2.1 k
        have hRw := hL.2.2.1
        have HO := hid (ownsRow_setCell_below hL.2.2.2.2.2.2.2.2 (a := ⟨w.heap.size + 1, k, none⟩) (by show w.heap.size + 1 < _; omega) (.int .i64 (cnt m k : Nat)))
        have hnews := new_one (wr.setCell ⟨w.heap.size + 1, k, none⟩ (.int .i64 (cnt m k : Nat))) wr.heap.size (by simp) (.string (ss k)) 9
        have HL := hid hL
        have HM := hid hmk
        clear hL hmk hbo hua hca hcr hui hci hri hpl hp2 hp5 hmg
        go_wp2_with (at_builtin; refine wpList_append_lies _ rfl (.tmp 60) (.tmp 62) 51 (by rfl) (w.heap.size + 1 + 1) 9 i9 (.string ByteArray.empty) 1 16 Try.underlying51 hi9 hs0 hs1 hs2 rfl (by omega) (.slice ao (cnt m k) cap) (cnt m k) (names m ss k) (by rfl) (World.ownsRow.alloc HO.out _) ⟨wr.heap.size, 0, none⟩ 1 1 [.string (ss k)] (by rfl) rfl hnews (by simp [Value.oneCell']) (by omega) (by unfold maxLen; omega) (by omega) (by simp; omega) (wr.heap.size + 1) (by simp) ?_; intro gg cap' w3 hown3 hgrow hat hlt3; have hfar := HL.out.after hgrow; have hf1 := hfar.1; have hf2 := hfar.2; clear hfar)
        go_roundw
        case rel => exact ⟨k + 1, _, by omega, by go_num, HL.out.push hkl HM.out hgrow hown3⟩
        case measure => simp [intOf]; omega
    · have e : k = n := by omega
      rw [e] at hL
      have HE := hid e
      clear e
      have cG : wr.cell? ⟨w.heap.size + 1, goal, none⟩ = some (.int .i64 (cnt m goal : Nat)) := by have := hL.2.2.2.2.2.1 goal hg; simpa [rk, hg, rn, hmg] using this
      have cP5 : wr.cell? ⟨pb, 5, none⟩ = some (.int .i64 (goal : Int)) := (hL.1.cell (by exact hpb)).trans hp5
      have cP2 : wr.cell? ⟨pb, 2, none⟩ = some (.slice aa al ac) := (hL.1.cell (by exact hpb)).trans hp2
      have cK5 := hL.2.2.2.2.2.2.1.2.2.2.2
      have fK5 := hL.2.2.2.1 5
      have nP : ¬ w.heap.size = pb := by omega
      have HL := hid hL
      clear hL hp5 hp2 hi9 hs0 hs1 hs2
      go_wp2
      obtain ⟨wb, hwb⟩ : ∃ wb, wb = wr.setCell ⟨w.heap.size, 5, none⟩ (.int .i64 (cnt m goal : Nat)) := ⟨_, rfl⟩
      rw [← hwb]
      have hKB := kb_start HL.out hg hmg hwb
      clear hwb HL cG cP5 cP2 cK5 fK5 HE hk hkl
      have hFS := FS.start 68 2 (Nat.lt_trans hKB.2.1.1 hKB.2.1.2) hKB.2.2.1 (hKB.2.2.2.2.1 2 (by omega) (by omega))
      obtain ⟨i68, hi68, hy0, hy1, hy2⟩ := info_parts Try.info68
      go_loopw [82] (fun t wr => ∃ (k cu : Nat) (vals : List Value) (v : Value), k ≤ al ∧ cu ≤ k ∧ t = .int .i64 k ∧ FS wb w.heap.size 2 68 2 cu vals v wr) (fun t _ => al - (intOf t).toNat)
      case atStart => exact ⟨0, 0, _, _, Nat.zero_le _, Nat.le_refl _, rfl, hFS⟩
      case round =>
        clear hFS
        obtain ⟨k, cu, vals, v, hk, hcu, rfl, hF⟩ := hrel
        by_cases hkl : k < al
        · --[l2
          obtain ⟨hu0, hu1⟩ := hui k hkl
          rcases hua with h0 | ⟨b, off, rfl, hlt, hc⟩
          · omega
          obtain ⟨g1, g2⟩ := hc k hkl
          have d1 := old_cell hKB.1 rfl hF.1 hlt g1
          have d2 := old_cell hKB.1 rfl hF.1 hlt g2
          have dM := old_cell hKB.1 rfl hF.1 hMlt (bools_cell' hbo (show (ug k).toNat < n by omega))
          have dR : wr.cell? ⟨w.heap.size + 1, (ug k).toNat, none⟩ = some (.int .i64 (rn m (ug k).toNat)) := (hF.1.cell hKB.2.1.2 (by omega)).trans (hKB.2.2.2.1 _ (by omega))
          have hMr : M < wr.heap.size := Nat.lt_of_lt_of_le hMlt (Nat.le_trans hKB.1.size hF.1.size)
          have hRr : w.heap.size + 1 < wr.heap.size := Nat.lt_of_lt_of_le hKB.2.1.2 hF.1.size
          have HF := hid hF
          have HKB := hid hKB
          clear hF hKB hc g1 g2 hbo hca hcr hui hci hri hpl
          cases hmr : m (ug k).toNat
          · rw [hmr] at dM
            clear hmr dR
            go_wp2
            obtain ⟨X, hX⟩ : ∃ X, X = wr.alloc (Obj.cells #[Value.int .i64 (uf k), Value.int .i64 (ug k)] 68) := ⟨_, rfl⟩
            have HX := hid (HF.out.later (copy_block hX).2.1)
            rw [hX] at HX
            clear hX
            go_roundw
            case rel => exact ⟨k + 1, cu, vals, v, by omega, by omega, by go_num, HX.out⟩
            case measure => simp [intOf]; omega
          · rw [hmr] at dM
            have HM := hid hmr
            clear hmr
            go_wp2
            obtain ⟨X, hX⟩ : ∃ X, X = wr.alloc (Obj.cells #[Value.int .i64 (uf k), Value.int .i64 (ug k)] 68) := ⟨_, rfl⟩
            rw [← hX]
            obtain ⟨xc, xb, xs⟩ := copy_block hX
            have x0 := xc 0 _ rfl
            have x1 := xc 1 _ rfl
            have xK : X.cell? ⟨w.heap.size, 2, none⟩ = some v := (xb.cell (by show w.heap.size < _; omega)).trans HF.out.2.2.2.2.1
            have xR : X.cell? ⟨w.heap.size + 1, (ug k).toNat, none⟩ = some (.int .i64 (rn m (ug k).toNat)) := (xb.cell (by exact hRr)).trans dR
            have yK : w.heap.size < X.heap.size := by omega
            have yR : w.heap.size + 1 < X.heap.size := by omega
            have HO := hid (ownsRow_below HF.out.2.2.2.2.2 xb)
            have HB := hid HF.out.1.size
            have hBX : wb.heap.size ≤ X.heap.size := Nat.le_trans HF.out.1.size xb.size
            clear hX xc d1 d2 dM dR HM
            refine only_normal (c := reg 15) ?_
            refine reg15_wp wb.heap.size w.heap.size (w.heap.size + 1) n wr.heap.size cu (uf k) (ug k) (rn m (ug k).toNat) v vals i68 X _ _ _ _ _ _ _ _ _ _ _ _ _ _ _ _ _ _ _ _ _ _ _ _ _ _ _ _ _ _ _ _ _ _ _ _ _ _ _ _ _ _ _ _ _ _ _ _ _ _ _ _ _ _ _ _ _ _ _ _ _ _ _ _ _ _ _ _ _ _ _ _ _ _ _ _ _ _ _ _ _ _ _ _ _ _ _ _ _ _ _ _ _ _ _ _ _ _ _ _ _ _ _ _ _ _ _ _ _ _ _ _ _ _ _ _ _ _ _ _ _ _ _ _ _ _ _ _ _ _ _ _ _ _ _ _ _ _ _ _ _ _ _ _ _ _ _ _ _ _ _ _ _ _ _ _ _ _ _ _ _ _ _ _ _ _ _ _ _ _ _ _ _ _ _ _ _ _ _ _ _ _ _ _ _ _ _ _ _ _ _ _ _ _ _ _ _ _ hi68 hy0 hy1 hy2 x0 x1 xK xR hu0 hu1 xs yK yR HO hBX (by omega) (fun w1 hgrow => HF.out.far xb hgrow) ?_
            intro gg cap w1 hown1 hgrow hat hlt1
            go_wp2
            go_roundw
            case rel => exact ⟨k + 1, cu + 1, _, _, by omega, by omega, by go_num, HF.out.push (xb.alloc xb.size _).drew hgrow hown1⟩
            case measure => simp [intOf]; omega
        · have hKB3 := hKB.next hF (by omega) (by omega)
          clear hKB hi68 hy0 hy1 hy2 hua hui hF
          obtain ⟨wc, rfl⟩ : ∃ wc : World, wc = wr := ⟨_, rfl⟩
          go_wp2
          clear hcu hk hkl
          have hFS := FS.start 69 2 (Nat.lt_trans hKB3.2.1.1 hKB3.2.1.2) hKB3.2.2.1 (hKB3.2.2.2.2.1 3 (by omega) (by omega))
          obtain ⟨i69, hi69, hy0, hy1, hy2⟩ := info_parts Try.info69
          go_loopw [111] (fun t wr => ∃ (k : Nat) (v : Value), k ≤ l ∧ t = .int .i64 k ∧ FS wc w.heap.size 3 69 2 (kel g m k).length (rowCR f g m (kel g m k)) v wr) (fun t _ => l - (intOf t).toNat)
          case atStart => exact ⟨0, _, Nat.zero_le _, rfl, hFS⟩
          case round =>
            clear hFS
            obtain ⟨k, v, hk, rfl, hF⟩ := hrel
            by_cases hkl : k < l
            · --[l3
              obtain ⟨⟨hf0, hf1⟩, hg0, hg1⟩ := hri k hkl
              rcases hcr with h0 | ⟨b, off, rfl, hlt, hc⟩
              · omega
              obtain ⟨g1, g2⟩ := hc k hkl
              have d1 := old_cell hKB3.1 rfl hF.1 hlt g1
              have d2 := old_cell hKB3.1 rfl hF.1 hlt g2
              have dM := old_cell hKB3.1 rfl hF.1 hMlt (bools_cell' hbo (show (g k).toNat < n by omega))
              have dF : wr.cell? ⟨w.heap.size + 1, (f k).toNat, none⟩ = some (.int .i64 (rn m (f k).toNat)) := (hF.1.cell hKB3.2.1.2 (by omega)).trans (hKB3.2.2.2.1 _ (by omega))
              have dG : wr.cell? ⟨w.heap.size + 1, (g k).toNat, none⟩ = some (.int .i64 (rn m (g k).toNat)) := (hF.1.cell hKB3.2.1.2 (by omega)).trans (hKB3.2.2.2.1 _ (by omega))
              have hMr : M < wr.heap.size := Nat.lt_of_lt_of_le hMlt (Nat.le_trans hKB3.1.size hF.1.size)
              have hRr : w.heap.size + 1 < wr.heap.size := Nat.lt_of_lt_of_le hKB3.2.1.2 hF.1.size
              have hkl' := kel_len g m k
              have HF := hid hF
              have HKB := hid hKB3
              clear hF hKB3 hc g1 g2 hbo hca hci hri hpl
              cases hmr : m (g k).toNat
              · rw [hmr] at dM
                have HM := hid hmr
                clear hmr dF dG
                go_wp2
                obtain ⟨X, hX⟩ : ∃ X, X = wr.alloc (Obj.cells #[Value.int .i64 (f k), Value.int .i64 (g k)] 69) := ⟨_, rfl⟩
                have HX := HF.out.later (copy_block hX).2.1
                rw [hX, ← kel_skip (k := k) HM.out] at HX
                have HX' := hid HX
                clear hX HX
                go_roundw
                case rel => exact ⟨k + 1, v, by omega, by go_num, HX'.out⟩
                case measure => simp [intOf]; omega
              · rw [hmr] at dM
                have HM := hid hmr
                clear hmr
                go_wp2
                obtain ⟨X, hX⟩ : ∃ X, X = wr.alloc (Obj.cells #[Value.int .i64 (f k), Value.int .i64 (g k)] 69) := ⟨_, rfl⟩
                rw [← hX]
                obtain ⟨xc, xb, xs⟩ := copy_block hX
                have x0 := xc 0 _ rfl
                have x1 := xc 1 _ rfl
                have xK : X.cell? ⟨w.heap.size, 3, none⟩ = some v := (xb.cell (by show w.heap.size < _; omega)).trans HF.out.2.2.2.2.1
                have xF : X.cell? ⟨w.heap.size + 1, (f k).toNat, none⟩ = some (.int .i64 (rn m (f k).toNat)) := (xb.cell (by exact hRr)).trans dF
                have xG : X.cell? ⟨w.heap.size + 1, (g k).toNat, none⟩ = some (.int .i64 (rn m (g k).toNat)) := (xb.cell (by exact hRr)).trans dG
                have yK : w.heap.size < X.heap.size := by omega
                have yR : w.heap.size + 1 < X.heap.size := by omega
                have HO := hid (ownsRow_below HF.out.2.2.2.2.2 xb)
                have hBX : wc.heap.size ≤ X.heap.size := Nat.le_trans HF.out.1.size xb.size
                clear hX xc d1 d2 dM dF dG
                refine only_normal (c := reg 21) ?_
                refine reg21_wp wc.heap.size w.heap.size (w.heap.size + 1) n wr.heap.size (kel g m k).length (f k) (g k) (rn m (f k).toNat) (rn m (g k).toNat) v (rowCR f g m (kel g m k)) i69 X _ _ _ _ _ _ _ _ _ _ _ _ _ _ _ _ _ _ _ _ _ _ _ _ _ _ _ _ _ _ _ _ _ _ _ _ _ _ _ _ _ _ _ _ _ _ _ _ _ _ _ _ _ _ _ _ _ _ _ _ _ _ _ _ _ _ _ _ _ _ _ _ _ _ _ _ _ _ _ _ _ _ _ _ _ _ _ _ _ _ _ _ _ _ _ _ _ _ _ _ _ _ _ _ _ _ _ _ _ _ _ _ _ _ _ _ _ _ _ _ _ _ _ _ _ _ _ _ _ _ _ _ _ _ _ _ _ _ _ _ _ _ _ _ _ _ _ _ _ _ _ _ _ _ _ _ _ _ _ _ _ _ _ _ _ _ _ _ _ _ _ _ _ _ _ _ _ _ _ _ _ _ _ _ _ _ _ _ _ _ _ _ _ _ _ _ _ _ hi69 hy0 hy1 hy2 x0 x1 xK xF xG (by omega) (by omega) (by omega) (by omega) xs yK yR HO hBX (by omega) (fun w1 hgrow => HF.out.far xb hgrow) ?_
                intro gg cap w1 hown1 hgrow hat hlt1
                go_wp2
                go_roundw
                case rel => exact ⟨k + 1, _, by omega, by go_num, cr_push HM.out HF.out xb hgrow hown1⟩
                case measure => simp [intOf]; omega
            · have hKB4 := hKB3.next hF (by omega) (by omega)
              have e : k = l := by omega
              rw [e] at hF
              have HE := hid e
              have hCR := cr_done hF
              clear hKB3 hi69 hy0 hy1 hy2 hcr hri hF e
              obtain ⟨wd, rfl⟩ : ∃ wd : World, wd = wr := ⟨_, rfl⟩
              go_wp2
              clear hk hkl HE
              have hFS := FS.start 72 3 (Nat.lt_trans hKB4.2.1.1 hKB4.2.1.2) hKB4.2.2.1 (hKB4.2.2.2.2.1 4 (by omega) (by omega))
              obtain ⟨i72, hi72, hy0, hy1, hy2⟩ := info_parts Try.info72
              obtain ⟨i73, hi73, hz0, hz1, hz2⟩ := info_parts Try.info73
              go_loopw [143] (fun t wr => ∃ (k : Nat) (pbf : Nat → Nat) (v : Value), k ≤ D.n ∧ t = .int .i64 k ∧ FC wd w.heap.size D m k pbf v wr) (fun t _ => D.n - (intOf t).toNat)
              case atStart => exact ⟨0, fun _ => 0, _, Nat.zero_le _, rfl, hFS, fun i hi => by simp [kel] at hi⟩
              case round =>
                clear hFS
                obtain ⟨k, pbf, v, hk, rfl, hF⟩ := hrel
                by_cases hkl : k < D.n
                · obtain ⟨⟨ha0, ha1⟩, ⟨hr0, hr1⟩, hlits⟩ := hci k hkl
                  have hpk := hpl k hkl
                  rcases hca with h0 | ⟨b, off, rfl, hlt, hc⟩
                  · omega
                  obtain ⟨pa, pc, g1, g2, g3, g4, g5⟩ := hc k hkl
                  have hBW : Below w.heap.size w wr := hKB4.1.trans (hF.1.1.below (Nat.le_of_lt (Nat.lt_trans hKB4.2.1.1 hKB4.2.1.2)) (Nat.le_refl _))
                  have d1 : wr.cell? ⟨b, off + k * 3, none⟩ = some (.int .i64 (D.adm k)) := (hBW.cell (by exact hlt)).trans g1
                  have d2 : wr.cell? ⟨b, off + k * 3 + 1, none⟩ = some (.slice pa (D.pl k) pc) := (hBW.cell (by exact hlt)).trans g2
                  have d3 : wr.cell? ⟨b, off + k * 3 + 2, none⟩ = some (.int .i64 (D.rol k)) := (hBW.cell (by exact hlt)).trans g3
                  have dM : wr.cell? ⟨M, (D.rol k).toNat, none⟩ = some (.bool (m (D.rol k).toNat)) := (hBW.cell (by exact hMlt)).trans (bools_cell' hbo (by omega))
                  have hMr : M < wr.heap.size := Nat.lt_of_lt_of_le hMlt hBW.size
                  have hRr : w.heap.size + 1 < wr.heap.size := Nat.lt_of_lt_of_le hKB4.2.1.2 hF.1.1.size
                  have HRN : Hid (∀ x, x < n → wr.cell? ⟨w.heap.size + 1, x, none⟩ = some (.int .i64 (rn m x))) := fun x hx => (hF.1.1.cell hKB4.2.1.2 (by omega)).trans (hKB4.2.2.2.1 x hx)
                  have HF := hid hF
                  have HKB := hid hKB4
                  have HBW := hid hBW
                  have hkl' := kel_len D.rol m k
                  clear hF hKB4 hc g1 g2 g3 g4 hBW
                  cases hmr : m (D.rol k).toNat
                  · rw [hmr] at dM
                    have HM := hid hmr
                    clear hmr g5 hlits hbo hci hpl
                    go_wp2
                    obtain ⟨X, hX⟩ : ∃ X, X = wr.alloc (Obj.cells #[Value.int .i64 (D.adm k), Value.slice pa (D.pl k) pc, Value.int .i64 (D.rol k)] 72) := ⟨_, rfl⟩
                    have HX := HF.out.later (copy_block hX).2.1
                    rw [hX] at HX
                    have HX' : Hid (FC wd w.heap.size D m (k + 1) pbf v (wr.alloc (Obj.cells #[Value.int .i64 (D.adm k), Value.slice pa (D.pl k) pc, Value.int .i64 (D.rol k)] 72))) := by show FC _ _ _ _ _ _ _ _; unfold FC at HX ⊢; rw [kel_skip HM.out]; exact HX
                    clear hX HX
                    go_roundw
                    case rel => exact ⟨k + 1, pbf, v, by omega, by go_num, HX'.out⟩
                    case measure => simp [intOf]; omega
                  · rw [hmr] at dM
                    have HM := hid hmr
                    have hb16 : i73.bytes * D.pl k ≤ 281474976710656 := by rw [hz2]; omega
                    have hml : D.pl k ≤ maxLen := by unfold maxLen; omega
                    obtain ⟨X, hX⟩ : ∃ X, X = wr.alloc (Obj.cells #[Value.int .i64 (D.adm k), Value.slice pa (D.pl k) pc, Value.int .i64 (D.rol k)] 72) := ⟨_, rfl⟩
                    obtain ⟨xc, xb, xs⟩ := copy_block hX
                    have HXc : Hid (X.cell? ⟨wr.heap.size, 0, none⟩ = some (.int .i64 (D.adm k)) ∧ X.cell? ⟨wr.heap.size, 1, none⟩ = some (.slice pa (D.pl k) pc) ∧ X.cell? ⟨wr.heap.size, 2, none⟩ = some (.int .i64 (D.rol k)) ∧ Below wr.heap.size wr X ∧ wr.heap.size < X.heap.size) := ⟨xc 0 _ rfl, xc 1 _ rfl, xc 2 _ rfl, xb, xs⟩
                    have HXe := hid hX
                    clear hmr xc xb xs hX hbo hpl
                    go_wp2_with (at_make; rw [← HXe.out]; refine wpList_make_full _ rfl _ _ 70 rfl X.heap.size 73 i73 (.agg #[.int .i64 0, .bool false]) 2 Try.underlying70 hi73 hz0 hz1 .i64 .i64 (D.pl k) (D.pl k) (D.pl k) rfl rfl rfl rfl hb16 hml (Nat.le_refl _) ?_; intro w5 hown hgrow; have HS : HalfP X (D.pl k) (fun j => .int .i64 (rn m (D.lit k j).toNat)) (fun j => .bool (D.neg k j)) 0 w5 := ⟨own_start hown hgrow, fun i hi => by omega⟩; have q2 : w5.cell? ⟨wr.heap.size, 1, none⟩ = some (.slice pa (D.pl k) pc) := (HS.1.1.cell (by exact HXc.out.2.2.2.2)).trans HXc.out.2.1; clear hown hgrow)
                    clear q2 hb16 hml d1 d2 d3 dM HXe hz0 hz1 hz2 hi73
                    obtain ⟨wo, rfl⟩ : ∃ wo : World, wo = wr := ⟨_, rfl⟩
                    go_loopw [160] (fun t wr => ∃ j : Nat, j ≤ D.pl k ∧ t = .int .i64 j ∧ HalfP X (D.pl k) (fun j => .int .i64 (rn m (D.lit k j).toNat)) (fun j => .bool (D.neg k j)) j wr) (fun t _ => D.pl k - (intOf t).toNat)
                    case atStart => exact ⟨0, Nat.zero_le _, rfl, HS⟩
                    case round =>
                      clear HS
                      obtain ⟨j, hj, rfl, hP⟩ := hrel
                      have HB : Hid (Below wo.heap.size wo wr) := HXc.out.2.2.2.1.trans (hP.1.1.mono (Nat.le_of_lt HXc.out.2.2.2.2))
                      have HB2 : Hid (Below w.heap.size w wr) := HBW.out.trans (HB.out.mono HBW.out.size)
                      have hXw : X.heap.size < wr.heap.size := hP.1.2.1
                      have hXo : wo.heap.size < X.heap.size := HXc.out.2.2.2.2
                      by_cases hjl : j < D.pl k
                      · --[l4a
                        rcases g5 with g5 | ⟨pb', po, rfl, hpb', hcl⟩
                        · omega
                        obtain ⟨q1, q2⟩ := hcl j hjl
                        obtain ⟨hj0, hj1⟩ := hlits j hjl
                        have e1 : wr.cell? ⟨pb', po + j * 2, none⟩ = some (.int .i64 (D.lit k j)) := (HB2.out.cell (by exact hpb')).trans q1
                        have e2 : wr.cell? ⟨pb', po + j * 2 + 1, none⟩ = some (.bool (D.neg k j)) := (HB2.out.cell (by exact hpb')).trans q2
                        have eR : wr.cell? ⟨w.heap.size + 1, (D.lit k j).toNat, none⟩ = some (.int .i64 (rn m (D.lit k j).toNat)) := (HB.out.cell (by exact hRr)).trans (HRN.out _ (by omega))
                        have HP := hid hP
                        have hji : (j : Int) < (D.pl k : Int) := by omega
                        have hj0' : (0 : Int) ≤ (j : Int) := by omega
                        have hl1 : D.lit k j < (n : Int) := hj1
                        clear hcl q1 q2 hP hlits hci
                        go_wp2
                        obtain ⟨Z, hZ⟩ : ∃ Z, Z = wr.alloc (Obj.cells #[Value.int .i64 (D.lit k j), Value.bool (D.neg k j)] 73) := ⟨_, rfl⟩
                        rw [← hZ]
                        obtain ⟨zc, zb, zs⟩ := copy_block hZ
                        have z0 := zc 0 _ rfl
                        have z1 := zc 1 _ rfl
                        have zR : Z.cell? ⟨w.heap.size + 1, (D.lit k j).toNat, none⟩ = some (.int .i64 (rn m (D.lit k j).toNat)) := (zb.cell (by show w.heap.size + 1 < _; omega)).trans eR
                        have HZ : HalfP X (D.pl k) (fun j => .int .i64 (rn m (D.lit k j).toNat)) (fun j => .bool (D.neg k j)) j Z := by rw [hZ]; exact HP.out.alloc _
                        obtain ⟨v0, hv0⟩ := HZ.1.2.2.2 (j * 2) (by omega)
                        obtain ⟨v1, hv1⟩ := HZ.1.2.2.2 (j * 2 + 1) (by omega)
                        have hf0 := HZ.1.2.2.1 (j * 2)
                        have hf1 := HZ.1.2.2.1 (j * 2 + 1)
                        have HST := hid (HZ.store hjl)
                        have n1 : ¬ X.heap.size = wr.heap.size := by omega
                        have n2 : ¬ X.heap.size = w.heap.size + 1 := by omega
                        clear hZ zc HZ HP e1 e2 eR
                        go_region_held3 (fun w' => w'.cell? ⟨wr.heap.size, 0, none⟩ = some (.int .i64 (D.lit k j)) ∧ w'.cell? ⟨wr.heap.size, 1, none⟩ = some (.bool (D.neg k j)) ∧ w'.cell? ⟨w.heap.size + 1, (D.lit k j).toNat, none⟩ = some (.int .i64 (rn m (D.lit k j).toNat))) (go_keep) (fail)
                        go_wp2
                        go_roundw
                        case rel => exact ⟨j + 1, by omega, by go_num, HST.out.drew⟩
                        case measure => simp [intOf]; omega
                      · --[l4b
                        have e : j = D.pl k := by omega
                        have hpre := hP.2
                        rw [e] at hpre
                        have HPRE := hid hpre
                        have HE := hid e
                        have c0 : wr.cell? ⟨wo.heap.size, 0, none⟩ = some (.int .i64 (D.adm k)) := (hP.1.1.cell (by exact hXo)).trans HXc.out.1
                        have c2 : wr.cell? ⟨wo.heap.size, 2, none⟩ = some (.int .i64 (D.rol k)) := (hP.1.1.cell (by exact hXo)).trans HXc.out.2.2.1
                        have cK : wr.cell? ⟨w.heap.size, 4, none⟩ = some v := (HB.out.cell (by show w.heap.size < _; omega)).trans HF.out.1.2.2.2.2.1
                        have cA : wr.cell? ⟨w.heap.size + 1, (D.adm k).toNat, none⟩ = some (.int .i64 (rn m (D.adm k).toNat)) := (HB.out.cell (by exact hRr)).trans (HRN.out _ (by omega))
                        have cO : wr.cell? ⟨w.heap.size + 1, (D.rol k).toNat, none⟩ = some (.int .i64 (rn m (D.rol k).toNat)) := (HB.out.cell (by exact hRr)).trans (HRN.out _ (by omega))
                        have HO := hid (ownsRow_below HF.out.1.2.2.2.2.2 HB.out)
                        have hBX : wd.heap.size ≤ wr.heap.size := Nat.le_trans HF.out.1.1.size HB.out.size
                        have y1 : w.heap.size < wr.heap.size := by omega
                        have y2 : w.heap.size + 1 < wr.heap.size := by omega
                        have y3 : wo.heap.size < wr.heap.size := by omega
                        clear e hpre hP g5 hlits hci
                        go_wp2
                        clear HE hj hjl
                        refine only_normal (c := reg 33) ?_
                        refine reg33_wp wd.heap.size w.heap.size (w.heap.size + 1) n wo.heap.size (kel D.rol m k).length (D.adm k) (D.rol k) (rn m (D.adm k).toNat) (rn m (D.rol k).toNat) (some ⟨X.heap.size, 0, none⟩) (D.pl k) (D.pl k) v (rowCA D m pbf (kel D.rol m k)) i72 wr _ _ _ _ _ _ _ _ _ _ _ _ _ _ _ _ _ _ _ _ _ _ _ _ _ _ _ _ _ _ _ _ _ _ _ _ _ _ _ _ _ _ _ _ _ _ _ _ _ _ _ _ _ _ _ _ _ _ _ _ _ _ _ _ _ _ _ _ _ _ _ _ _ _ _ _ _ _ _ _ _ _ _ _ _ _ _ _ _ _ _ _ _ _ _ _ _ _ _ _ _ _ _ _ _ _ _ _ _ _ _ _ _ _ _ _ _ _ _ _ _ _ _ _ _ _ _ _ _ _ _ _ _ _ _ _ _ _ _ _ _ _ _ _ _ _ _ _ _ _ _ _ _ _ _ _ _ _ _ _ _ _ _ _ _ _ _ _ _ _ _ _ _ _ _ _ _ _ _ _ _ _ _ _ _ _ _ _ _ _ _ _ _ _ _ _ _ hi72 hy0 hy1 hy2 c0 c2 cK cA cO (by omega) (by omega) (by omega) (by omega) y3 y1 y2 HO hBX (by omega) (fun w1 hgrow => HF.out.1.far HB.out hgrow) ?_
                        intro gg cap w1 hown1 hgrow hat hlt1
                        go_wp2
                        go_roundw
                        case rel => exact ⟨k + 1, _, _, by omega, by go_num, HF.out.push HM.out HB.out hgrow (Nat.le_of_lt hXo) hXw HPRE.out hat hown1⟩
                        case measure => simp [intOf]; omega
                · have e : k = D.n := by omega
                  rw [e] at hF
                  have HE := hid e
                  have HCA := hid (fc_done hF)
                  have HKB := hid (hKB4.next hF.1 (by omega) (by omega))
                  have HCR : Hid (∃ a c, wr.cell? ⟨w.heap.size, 3, none⟩ = some (.slice a (kel g m l).length c) ∧ PX w.heap.size wr a (kel g m l).length (keptF m (kel g m l) f) (keptF m (kel g m l) g)) := by
                    obtain ⟨a, c, h1, h2⟩ := hCR
                    exact ⟨a, c, (hF.1.2.2.2.1 3 (by omega)).trans h1, h2.later hF.1.1⟩
                  clear e hF hCR hKB4 hca hci hpl hbo hi72 hy0 hy1 hy2 hi73 hz0 hz1 hz2
                  go_wp2
                  go_ret
                  refine ⟨w.heap.size, rfl, ?_⟩
                  obtain ⟨b1, b2, b3, b4, b5, b6, rb, rc', b7, b8, b9, b10⟩ := HKB.out
                  obtain ⟨a, c, q1, q2⟩ := HCR.out
                  exact ⟨by omega, b1, ⟨rb, rc', b7, b8⟩, ⟨a, c, q1, q2.pairs⟩, HCA.out, b6⟩

end Go.Proofs.Qxb6605479a
