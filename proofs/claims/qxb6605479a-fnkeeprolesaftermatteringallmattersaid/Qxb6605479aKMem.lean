/-
  keepRoles: the plain renumbering, and the memory of the kept policy.
-/
import Derived.Test.Qxb6605479aKClone
namespace Go.Proofs.Qxb6605479a
open Go.RowKit

/-! ### the plain renumbering -/
def rn (m : Nat → Bool) (x : Nat) : Int := if m x = true then (cnt m x : Int) else 0
theorem rn_true {m : Nat → Bool} {x : Nat} (h : m x = true) : rn m x = cnt m x := by unfold rn; rw [if_pos h]

theorem cnt_mono (m : Nat → Bool) {a b : Nat} (h : a ≤ b) : cnt m a ≤ cnt m b := by
  induction b with
  | zero => obtain rfl : a = 0 := by omega
            exact Nat.le_refl _
  | succ b ih =>
    by_cases e : a = b + 1
    · subst e; exact Nat.le_refl _
    · have := ih (by omega)
      simp only [cnt]
      omega

theorem cnt_lt {m : Nat → Bool} {x n : Nat} (hx : x < n) (h : m x = true) : cnt m x < cnt m n := by
  have h1 := cnt_mono m (show x + 1 ≤ n by omega)
  have h2 : cnt m (x + 1) = cnt m x + 1 := by simp [cnt, h]
  omega

/-- Every number below the count is the number of a marked role. -/
theorem cnt_onto (m : Nat → Bool) {n j : Nat} (h : j < cnt m n) : ∃ x, x < n ∧ m x = true ∧ cnt m x = j := by
  induction n with
  | zero => simp [cnt] at h
  | succ n ih =>
    by_cases hm : m n = true
    · by_cases e : j = cnt m n
      · exact ⟨n, by omega, hm, e.symm⟩
      · simp [cnt, hm] at h
        obtain ⟨x, h1, h2, h3⟩ := ih (by omega)
        exact ⟨x, by omega, h2, h3⟩
    · simp [cnt, hm] at h
      obtain ⟨x, h1, h2, h3⟩ := ih h
      exact ⟨x, by omega, h2, h3⟩

/-- Of the first k rules those whose role is marked, in order. -/
def kel (rol : Nat → Int) (m : Nat → Bool) : Nat → List Nat
  | 0 => []
  | k + 1 => if m (rol k).toNat = true then kel rol m k ++ [k] else kel rol m k

theorem mem_kel {rol : Nat → Int} {m : Nat → Bool} {k i : Nat} : i ∈ kel rol m k ↔ i < k ∧ m (rol i).toNat = true := by
  induction k with
  | zero => simp [kel]
  | succ k ih =>
    simp only [kel]
    split
    · rw [List.mem_append, ih]
      simp
      constructor
      · rintro (⟨h1, h2⟩ | h)
        · exact ⟨by omega, h2⟩
        · subst h; exact ⟨by omega, ‹_›⟩
      · rintro ⟨h1, h2⟩
        by_cases e : i = k
        · exact .inr e
        · exact .inl ⟨by omega, h2⟩
    · rw [ih]
      constructor
      · rintro ⟨h1, h2⟩; exact ⟨by omega, h2⟩
      · rintro ⟨h1, h2⟩
        refine ⟨?_, h2⟩
        by_cases e : i = k
        · subst e; exact absurd h2 ‹_›
        · omega

theorem kel_len (rol : Nat → Int) (m : Nat → Bool) (k : Nat) : (kel rol m k).length ≤ k := by
  induction k with
  | zero => simp [kel]
  | succ k ih =>
    simp only [kel]
    split
    · simp; omega
    · omega

def keptF (m : Nat → Bool) (xs : List Nat) (f : Nat → Int) (k : Nat) : Int := rn m (f (xs.getD k 0)).toNat
def keptD (D : Rules) (m : Nat → Bool) : Rules :=
  ⟨(kel D.rol m D.n).length, keptF m (kel D.rol m D.n) D.adm, keptF m (kel D.rol m D.n) D.rol, fun k => D.pl ((kel D.rol m D.n).getD k 0), fun k j => rn m (D.lit ((kel D.rol m D.n).getD k 0) j).toNat, fun k j => D.neg ((kel D.rol m D.n).getD k 0) j⟩

/-- The plain law: every kept role matters to the new goal. -/
theorem all_matter {D : Rules} {l : Nat} {f g : Nat → Int} {goal n : Nat} {m m2 : Nat → Bool} (h : Least D l f g goal m)
    (h2 : Least (keptD D m) (kel g m l).length (keptF m (kel g m l) f) (keptF m (kel g m l) g) (cnt m goal) m2) {j : Nat} (hj : j < cnt m n) : m2 j = true := by
  obtain ⟨x, _, hx, rfl⟩ := cnt_onto m hj
  refine (h.2.2 (fun x => m x = true ∧ m2 (cnt m x) = true) ⟨h.1, h2.1⟩ ⟨fun i hi hr => ?_, fun i hi hr => ?_⟩ x hx).2
  · obtain ⟨k, hk, e⟩ := mem_getD (mem_kel.2 ⟨hi, hr.1⟩)
    obtain ⟨a1, a2⟩ := h.2.1.1 i hi hr.1
    have hc := h2.2.1.1 k hk
    simp only [RuleCl, keptD, keptF, e] at hc
    rw [rn_true hr.1, rn_true a1] at hc
    simp only [Int.toNat_natCast] at hc
    obtain ⟨b1, b2⟩ := hc hr.2
    refine ⟨⟨a1, b1⟩, fun j hj => ⟨a2 j hj, ?_⟩⟩
    have := b2 j hj
    rw [rn_true (a2 j hj)] at this
    simpa using this
  · obtain ⟨k, hk, e⟩ := mem_getD (mem_kel.2 ⟨hi, hr.1⟩)
    have a1 := h.2.1.2 i hi hr.1
    have hc := h2.2.1.2 k hk
    simp only [PairCl, keptF, e] at hc
    rw [rn_true hr.1, rn_true a1] at hc
    simp only [Int.toNat_natCast] at hc
    exact ⟨a1, hc hr.2⟩

theorem rn_in {m : Nat → Bool} {x n : Nat} (hx : x < n) (h : m x = true) : 0 ≤ rn m x ∧ rn m x < (cnt m n : Int) := by
  rw [rn_true h]
  have := cnt_lt hx h
  omega

theorem kept_in {D : Rules} {l : Nat} {f g : Nat → Int} {goal n : Nat} {m : Nat → Bool} (h : Least D l f g goal m) (h1 : RulesIn D.n D n) (h2 : PairsIn l f g n) :
    RulesIn (keptD D m).n (keptD D m) (cnt m n : Nat) ∧ PairsIn (kel g m l).length (keptF m (kel g m l) f) (keptF m (kel g m l) g) (cnt m n : Nat) := by
  refine ⟨fun k hk => ?_, fun k hk => ?_⟩
  · obtain ⟨hi, hm⟩ := mem_kel.1 (getD_mem (show k < (kel D.rol m D.n).length from hk))
    obtain ⟨a1, a2⟩ := h.2.1.1 _ hi hm
    obtain ⟨⟨b1, b2⟩, ⟨b3, b4⟩, b5⟩ := h1 _ hi
    exact ⟨rn_in (by omega) a1, rn_in (by omega) hm, fun j hj => rn_in (by have := b5 j hj; omega) (a2 j hj)⟩
  · obtain ⟨hi, hm⟩ := mem_kel.1 (getD_mem hk)
    have a1 := h.2.1.2 _ hi hm
    obtain ⟨⟨b1, b2⟩, b3, b4⟩ := h2 _ hi
    exact ⟨rn_in (by omega) a1, rn_in (by omega) hm⟩

/-! ### all blocks below B but one are as they were -/
def BX (B K : Nat) (w w' : World) : Prop := w'.os = w.os ∧ w'.tape = w.tape ∧ w'.output = w.output ∧ w.heap.size ≤ w'.heap.size ∧ ∀ k, k < B → k ≠ K → w'.heap[k]? = w.heap[k]?

theorem BX.refl (B K : Nat) (w : World) : BX B K w w := ⟨rfl, rfl, rfl, Nat.le_refl _, fun _ _ _ => rfl⟩
theorem BX.trans {B K : Nat} {a b c : World} (h : BX B K a b) (k : BX B K b c) : BX B K a c :=
  ⟨k.1.trans h.1, k.2.1.trans h.2.1, k.2.2.1.trans h.2.2.1, Nat.le_trans h.2.2.2.1 k.2.2.2.1, fun i hi hn => (k.2.2.2.2 i hi hn).trans (h.2.2.2.2 i hi hn)⟩
theorem BX.mono {B B' K : Nat} {a b : World} (h : BX B K a b) (hB : B' ≤ B) : BX B' K a b := ⟨h.1, h.2.1, h.2.2.1, h.2.2.2.1, fun i hi hn => h.2.2.2.2 i (by omega) hn⟩
theorem BX.size {B K : Nat} {a b : World} (h : BX B K a b) : a.heap.size ≤ b.heap.size := h.2.2.2.1
theorem BX.of_below {B K : Nat} {a b : World} (h : Below B a b) : BX B K a b := ⟨h.os, h.tape, h.output, h.size, fun i hi _ => h.block i hi⟩
theorem BX.below {B K B' : Nat} {a b : World} (h : BX B K a b) (hB : B' ≤ B) (hK : B' ≤ K) : Below B' a b := ⟨h.1, h.2.1, h.2.2.1, h.2.2.2.1, fun i hi => h.2.2.2.2 i (by omega) (by omega)⟩
theorem BX.cell {B K : Nat} {a b : World} (h : BX B K a b) {p o : Nat} (hp : p < B) (hK : p ≠ K) : b.cell? ⟨p, o, none⟩ = a.cell? ⟨p, o, none⟩ := World.cell?_of_block (w := a) (h.2.2.2.2 p hp hK)
theorem BX.frozen {B K : Nat} {a b : World} (h : BX B K a b) {p o : Nat} (hp : p < B) (hK : p ≠ K) : b.frozen? ⟨p, o, none⟩ = a.frozen? ⟨p, o, none⟩ := World.frozen?_of_block (w := a) (h.2.2.2.2 p hp hK)
theorem BX.setK {B K : Nat} {a b : World} (h : BX B K a b) (o : Nat) (v : Value) : BX B K a (b.setCell ⟨K, o, none⟩ v) :=
  h.trans ⟨rfl, rfl, rfl, by simp [World.setCell], fun k hk hn => Below.heap_setCell _ _ _ _ hn⟩

/-! ### one field of the kept policy, grown by append -/
def FS (wb : World) (K q : Nat) (e : TypeId) (size n : Nat) (xs : List Value) (v : Value) (wr : World) : Prop :=
  BX wb.heap.size K wb wr ∧ K < wb.heap.size ∧ (∀ o, wr.frozen? ⟨K, o, none⟩ = false) ∧ (∀ o, o ≠ q → wr.cell? ⟨K, o, none⟩ = wb.cell? ⟨K, o, none⟩) ∧ wr.cell? ⟨K, q, none⟩ = some v ∧ wr.ownsRow wb.heap.size e size v n xs

theorem FS.start {wb : World} {K q : Nat} (e : TypeId) (size : Nat) (hK : K < wb.heap.size) (hf : ∀ o, wb.frozen? ⟨K, o, none⟩ = false) (hc : wb.cell? ⟨K, q, none⟩ = some (.slice none 0 0)) : FS wb K q e size 0 [] (.slice none 0 0) wb :=
  ⟨BX.refl _ _ _, hK, hf, fun _ _ => rfl, hc, World.ownsRow_nil _ _ _ _⟩

theorem FS.later {wb wr X : World} {K q : Nat} {e : TypeId} {size n : Nat} {xs : List Value} {v : Value} (h : FS wb K q e size n xs v wr) (hX : Below wr.heap.size wr X) : FS wb K q e size n xs v X := by
  obtain ⟨a1, a2, a3, a4, a5, a6⟩ := h
  have hK : K < wr.heap.size := Nat.lt_of_lt_of_le a2 a1.size
  exact ⟨a1.trans (BX.of_below (hX.mono a1.size)), a2, fun o => (hX.frozen (by exact hK)).trans (a3 o), fun o ho => (hX.cell (by exact hK)).trans (a4 o ho), (hX.cell (by exact hK)).trans a5, ownsRow_below a6 hX⟩

theorem FS.push {wb wr X w1 : World} {K q : Nat} {e : TypeId} {size n n' : Nat} {xs xs' : List Value} {v v' : Value} (h : FS wb K q e size n xs v wr) (hX : Below wr.heap.size wr X) (hg : X.grownBy w1 v.ownBlock) (hown : w1.ownsRow wb.heap.size e size v' n' xs') :
    FS wb K q e size n' xs' v' (w1.setCell ⟨K, q, none⟩ v') := by
  have hrow : ∀ g, v.ownBlock = some g → wb.heap.size ≤ g := fun g hg => (h.2.2.2.2.2.lt g hg).1
  obtain ⟨a1, a2, a3, a4, a5, a6⟩ := h.later hX
  have hB : Below wb.heap.size X w1 := (Below.refl _ _).grown hg a1.size hrow
  have hex : ∃ u, w1.cell? ⟨K, q, none⟩ = some u := ⟨v, (hB.cell (by exact a2)).trans a5⟩
  refine ⟨(a1.trans (BX.of_below hB)).setK _ _, a2, fun o => ?_, fun o ho => ?_, ?_, ?_⟩
  · rw [World.frozen?_setCell]; exact (hB.frozen (by exact a2)).trans (a3 o)
  · rw [cell_set _ hex, if_neg ho]; exact (hB.cell (by exact a2)).trans (a4 o ho)
  · rw [cell_set _ hex, if_pos rfl]
  · exact ownsRow_setCell_below hown (by exact a2) _

/-- The cells that the region of the append reads, behind the append. -/
theorem FS.far {wb wr X w1 : World} {K q : Nat} {e : TypeId} {size n : Nat} {xs : List Value} {v : Value} {o : Obj} (h : FS wb K q e size n xs v wr) (hX : Below wr.heap.size wr X) (hg : ((X.alloc o).drew).grownBy w1 v.ownBlock) :
    w1.cell? ⟨K, q, none⟩ = some v ∧ w1.frozen? ⟨K, q, none⟩ = false := by
  have hrow : ∀ g, v.ownBlock = some g → wb.heap.size ≤ g := fun g hg => (h.2.2.2.2.2.lt g hg).1
  have hX' : Below wr.heap.size wr ((X.alloc o).drew) := (hX.alloc hX.size o).drew
  obtain ⟨a1, a2, a3, a4, a5, a6⟩ := h.later hX'
  have hB : Below wb.heap.size ((X.alloc o).drew) w1 := (Below.refl _ _).grown hg a1.size hrow
  exact ⟨(hB.cell (by exact a2)).trans a5, (hB.frozen (by exact a2)).trans (a3 q)⟩

/-- A cell below the base, behind the append. -/
theorem FS.old {wb wr X w1 : World} {K q : Nat} {e : TypeId} {size n : Nat} {xs : List Value} {v u : Value} {o : Obj} {p j : Nat} (h : FS wb K q e size n xs v wr) (hX : Below wr.heap.size wr X) (hg : ((X.alloc o).drew).grownBy w1 v.ownBlock)
    (hp : p < wb.heap.size) (hc : X.cell? ⟨p, j, none⟩ = some u) : w1.cell? ⟨p, j, none⟩ = some u := by
  have hrow : ∀ g, v.ownBlock = some g → wb.heap.size ≤ g := fun g hg => (h.2.2.2.2.2.lt g hg).1
  have hs : wb.heap.size ≤ X.heap.size := Nat.le_trans h.1.size hX.size
  have hB : Below wb.heap.size X w1 := (((Below.refl _ _).alloc hs o).drew).grown hg (by simp; omega) hrow
  exact (hB.cell (by exact hp)).trans hc

/-- A cell of the copy, behind the append. -/
theorem FS.copy {wb wr X w1 : World} {K q : Nat} {e : TypeId} {size n : Nat} {xs : List Value} {v u : Value} {o : Obj} {j : Nat} (h : FS wb K q e size n xs v wr) (hg : ((X.alloc o).drew).grownBy w1 v.ownBlock)
    (hs : wr.heap.size < X.heap.size) (hc : X.cell? ⟨wr.heap.size, j, none⟩ = some u) : w1.cell? ⟨wr.heap.size, j, none⟩ = some u := by
  have hne : some wr.heap.size ≠ v.ownBlock := fun e => by have := (h.2.2.2.2.2.lt _ e.symm).2; omega
  have hb : Below X.heap.size X ((X.alloc o).drew) := ((Below.refl _ _).alloc (Nat.le_refl _) o).drew
  exact (hg.cell_far _ (by show wr.heap.size < (X.alloc o).heap.size; simp; omega) hne).trans ((hb.cell (by exact hs)).trans hc)

/-! ### reading the rows -/
def rowP (a b : Nat → Value) (xs : List Nat) : List Value := xs.flatMap fun i => [a i, b i]
theorem rowP_at (a b : Nat → Value) : ∀ (xs : List Nat) (k : Nat), k < xs.length → (rowP a b xs)[k * 2]? = some (a (xs.getD k 0)) ∧ (rowP a b xs)[k * 2 + 1]? = some (b (xs.getD k 0))
  | [], k, h => by simp at h
  | x :: xs, 0, _ => by simp [rowP, List.flatMap_cons]
  | x :: xs, k + 1, h => by
    have ih := rowP_at a b xs k (by simpa using h)
    have e1 : (k + 1) * 2 = k * 2 + 1 + 1 := by omega
    rw [e1]
    simpa [rowP, List.flatMap_cons] using ih
def rowT (a b c : Nat → Value) (xs : List Nat) : List Value := xs.flatMap fun i => [a i, b i, c i]
theorem rowT_at (a b c : Nat → Value) : ∀ (xs : List Nat) (k : Nat), k < xs.length → (rowT a b c xs)[k * 3]? = some (a (xs.getD k 0)) ∧ (rowT a b c xs)[k * 3 + 1]? = some (b (xs.getD k 0)) ∧ (rowT a b c xs)[k * 3 + 2]? = some (c (xs.getD k 0))
  | [], k, h => by simp at h
  | x :: xs, 0, _ => by simp [rowT, List.flatMap_cons]
  | x :: xs, k + 1, h => by
    have ih := rowT_at a b c xs k (by simpa using h)
    have e1 : (k + 1) * 3 = k * 3 + 1 + 1 + 1 := by omega
    rw [e1]
    simpa [rowT, List.flatMap_cons] using ih

end Go.Proofs.Qxb6605479a
