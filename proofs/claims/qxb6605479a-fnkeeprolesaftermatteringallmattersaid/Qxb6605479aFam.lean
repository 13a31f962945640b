/-
  A family of slices of the call's own: 'assigning', 'revoking' of mattering: the memory.
-/
import Derived.Test.Qxb6605479aMark
import Derived.Test.Qxb6605479aBytes
namespace Go.Proofs.Qxb6605479a
open Go.RowKit

def nats (xs : List Nat) : List Value := xs.map fun (i : Nat) => Value.int .i64 (i : Int)

/-- The rules among the first k that give role r, in order. -/
def asg (rol : Nat → Int) : Nat → Nat → List Nat
  | 0, _ => []
  | k + 1, r => if (rol k).toNat = r then asg rol k r ++ [k] else asg rol k r

theorem mem_asg {rol : Nat → Int} {k r i : Nat} : i ∈ asg rol k r ↔ i < k ∧ (rol i).toNat = r := by
  induction k with
  | zero => simp [asg]
  | succ k ih =>
    simp only [asg]
    split
    · rw [List.mem_append, ih]
      simp
      constructor
      · rintro (⟨h1, h2⟩ | h)
        · exact ⟨by omega, h2⟩
        · subst h; exact ⟨by omega, ‹_›⟩
      · rintro ⟨h1, h2⟩
        by_cases e : i = k
        · exact .inr e
        · exact .inl ⟨by omega, h2⟩
    · rw [ih]
      constructor
      · rintro ⟨h1, h2⟩; exact ⟨by omega, h2⟩
      · rintro ⟨h1, h2⟩
        refine ⟨?_, h2⟩
        by_cases e : i = k
        · subst e; exact absurd h2 ‹_›
        · omega

theorem asg_len (rol : Nat → Int) (k r : Nat) : (asg rol k r).length ≤ k := by
  induction k with
  | zero => simp [asg]
  | succ k ih =>
    simp only [asg]
    split
    · simp; omega
    · omega

theorem ownsRow_below {w w' : World} {base : Nat} {e : TypeId} {size : Nat} {v : Value} {n : Nat} {xs : List Value} (h : w.ownsRow base e size v n xs) (hb : Below w.heap.size w w') : w'.ownsRow base e size v n xs := by
  obtain ⟨h1, h2⟩ := h
  refine ⟨h1, ?_⟩
  rcases h2 with h2 | ⟨g, cap, cur, hv, hg, hh, r⟩
  · exact .inl h2
  · exact .inr ⟨g, cap, cur, hv, hg, (hb.block g (lt_of_block hh)).trans hh, r⟩

/-- The block w.heap.size holds one slice a role; each owns its numbers; no two share a block. -/
def FamV (w : World) (roles : Nat) (rows : Nat → List Nat) (V : Nat → Value) (wr : World) : Prop :=
  Own w roles wr ∧ (∀ r, r < roles → wr.cell? ⟨w.heap.size, r, none⟩ = some (V r) ∧ wr.ownsRow (w.heap.size + 1) 3 1 (V r) (rows r).length (nats (rows r))) ∧
    ∀ r s, r < roles → s < roles → r ≠ s → ∀ g, (V r).ownBlock = some g → (V s).ownBlock ≠ some g
def Fam (w : World) (roles : Nat) (rows : Nat → List Nat) (wr : World) : Prop := ∃ V, FamV w roles rows V wr

theorem FamV.push {w wr X w1 : World} {roles : Nat} {rows rows' : Nat → List Nat} {V : Nat → Value} {r k gg cap : Nat} (h : FamV w roles rows V wr) (hr : r < roles) (hX : Below wr.heap.size wr X) (hg : X.grownBy w1 (V r).ownBlock)
    (hown : w1.ownsRow (w.heap.size + 1) 3 1 (.slice (some ⟨gg, 0, none⟩) ((rows r).length + 1) cap) ((rows r).length + 1) (nats (rows r) ++ [.int .i64 (k : Int)])) (hat : (V r).ownBlock = some gg ∨ gg = X.heap.size)
    (h1 : rows' r = rows r ++ [k]) (h2 : ∀ s, s ≠ r → rows' s = rows s) :
    Fam w roles rows' (w1.setCell ⟨w.heap.size, r, none⟩ (.slice (some ⟨gg, 0, none⟩) ((rows r).length + 1) cap)) := by
  obtain ⟨o, hV, hd⟩ := h
  have hrow : ∀ g, (V r).ownBlock = some g → w.heap.size + 1 ≤ g ∧ g < wr.heap.size := fun g hg => (hV r hr).2.lt g hg
  have hB : Below (w.heap.size + 1) wr w1 := (hX.mono o.2.1).grown hg (Nat.le_trans o.2.1 hX.size) (fun g hg => (hrow g hg).1)
  have hA : w.heap.size < wr.heap.size := o.2.1
  have hs1 : wr.heap.size ≤ w1.heap.size := hB.size
  have hex : ∀ x, x < roles → ∃ v, w1.cell? ⟨w.heap.size, x, none⟩ = some v := fun x hx => by rw [hB.cell (by show w.heap.size < _; omega)]; exact o.2.2.2 x hx
  have oY : Own w roles (w1.setCell ⟨w.heap.size, r, none⟩ (.slice (some ⟨gg, 0, none⟩) ((rows r).length + 1) cap)) := by
    have o1 : Own w roles w1 := ⟨o.1.trans (hB.mono (by omega)), by omega, fun x => (hB.frozen (by show w.heap.size < _; omega)).trans (o.2.2.1 x), hex⟩
    exact o1.set hr _
  refine ⟨fun s => if s = r then .slice (some ⟨gg, 0, none⟩) ((rows r).length + 1) cap else V s, oY, fun s hs => ?_, fun s t hs ht hst g => ?_⟩
  · rw [cell_set _ (hex r hr)]
    by_cases e : s = r
    · subst e
      dsimp only
      rw [if_pos rfl, if_pos rfl]
      refine ⟨rfl, ?_⟩
      have e1 : (rows' s).length = (rows s).length + 1 := by rw [h1]; simp
      have e2 : nats (rows' s) = nats (rows s) ++ [.int .i64 (k : Int)] := by rw [h1]; simp [nats]
      rw [e1, e2]
      exact ownsRow_setCell_below hown (by show w.heap.size < _; omega) _
    · simp only [if_neg e]
      refine ⟨(hB.cell (by show w.heap.size < _; omega)).trans (hV s hs).1, ?_⟩
      rw [h2 s e]
      refine ownsRow_setCell_below ?_ (by show w.heap.size < _; omega) _
      refine (ownsRow_below (hV s hs).2 hX).kept hg ?_
      cases eb : (V s).ownBlock with
      | none => exact .inl rfl
      | some g => exact .inr (fun e' => hd s r hs hr e g eb e'.symm)
  · have hnew : ∀ u, u < roles → u ≠ r → (V u).ownBlock ≠ some gg := fun u hu hur e => by
      rcases hat with hat | hat
      · exact hd u r hu hr hur gg e hat
      · have := ((hV u hu).2.lt gg e).2
        have := hX.size
        omega
    dsimp only
    by_cases e1 : s = r <;> by_cases e2 : t = r
    · exact absurd (e1.trans e2.symm) hst
    · rw [if_pos e1, if_neg e2]
      intro hgg
      have e : gg = g := Option.some.inj hgg
      rw [← e]
      exact hnew t ht e2
    · rw [if_neg e1, if_pos e2]
      intro hgg e'
      have e : gg = g := Option.some.inj e'
      rw [← e] at hgg
      exact hnew s hs e1 hgg
    · rw [if_neg e1, if_neg e2]
      exact hd s t hs ht hst g

theorem Fam.drew {w wr : World} {roles : Nat} {rows : Nat → List Nat} (h : Fam w roles rows wr) : Fam w roles rows wr.drew := by
  obtain ⟨V, o, hV, hd⟩ := h
  exact ⟨V, o.drew, fun r hr => ⟨(hV r hr).1, (hV r hr).2⟩, hd⟩

theorem Try.info64 : (Try.prog.info? 64).map (fun i => (i.zero, i.size, i.bytes)) = some (some (.slice none 0 0), 1, 24) := by kernel_rfl

theorem fam_start {w w1 : World} {n : Nat} (rol : Nat → Int) (hown : w1.ownsRow w.heap.size 64 1 (.slice (some ⟨w.heap.size, 0, none⟩) n n) n (madeCells (Value.slice none 0 0).cells (n * 1)).toList) (hg : w.grownBy w1 none) : Fam w n (asg rol 0) w1 := by
  have h := own_start hown hg
  rw [Nat.mul_one] at h
  refine ⟨fun _ => .slice none 0 0, h, fun r hr => ⟨?_, ?_⟩, fun r s _ _ _ g hg => by cases hg⟩
  · rw [hown.cellAt r (by omega)]
    have e : (Value.slice none 0 0).cells = #[.slice none 0 0] := rfl
    rw [e, toList_madeCells_one, Nat.mul_one, List.getElem?_replicate, if_pos hr]
  · exact World.ownsRow_nil _ _ _ _

/-- The family, read only: below block B. -/
def FamAt (B : Nat) (w : World) (A roles : Nat) (rows : Nat → List Nat) : Prop :=
  A < B ∧ ∀ r, r < roles → ∃ ad cp, w.cell? ⟨A, r, none⟩ = some (.slice ad (rows r).length cp) ∧
    ((rows r).length = 0 ∨ ∃ gb, ad = some ⟨gb, 0, none⟩ ∧ gb < B ∧ ∀ k, k < (rows r).length → w.cell? ⟨gb, k, none⟩ = some (.int .i64 (((rows r).getD k 0 : Nat) : Int)))

theorem FamAt.below {B B' : Nat} {w w' : World} {A roles : Nat} {rows : Nat → List Nat} (h : FamAt B w A roles rows) (hb : Below B w w') (hB : B ≤ B') : FamAt B' w' A roles rows := by
  obtain ⟨h1, h2⟩ := h
  refine ⟨by omega, fun r hr => ?_⟩
  obtain ⟨ad, cp, c, e⟩ := h2 r hr
  refine ⟨ad, cp, (hb.cell h1).trans c, ?_⟩
  rcases e with e | ⟨gb, e1, e2, e3⟩
  · exact .inl e
  · exact .inr ⟨gb, e1, by omega, fun k hk => (hb.cell e2).trans (e3 k hk)⟩

theorem Fam.reads {w wr : World} {roles : Nat} {rows : Nat → List Nat} (h : Fam w roles rows wr) : FamAt wr.heap.size wr w.heap.size roles rows := by
  obtain ⟨V, o, hV, _⟩ := h
  refine ⟨o.2.1, fun r hr => ?_⟩
  obtain ⟨c, hown⟩ := hV r hr
  rcases hown.2 with ⟨hv, h0⟩ | ⟨g, cap, cur, hv, hb, hh, _⟩
  · rw [hv] at c
    exact ⟨none, 0, by rw [h0]; exact c, .inl h0⟩
  · rw [hv] at c hown
    refine ⟨_, cap, c, .inr ⟨g, rfl, lt_of_block hh, fun k hk => ?_⟩⟩
    rw [hown.cellAt k (by omega)]
    simp [nats, List.getElem?_map, List.getElem?_eq_getElem hk, List.getD]

end Go.Proofs.Qxb6605479a
