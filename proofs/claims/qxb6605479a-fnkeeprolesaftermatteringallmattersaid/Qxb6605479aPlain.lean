/-
  The plain law: the least closed set. No Go in sight but the shape of the rules.
-/
import Derived.Test.Qxb6605479aClone
namespace Go.Proofs.Qxb6605479a
open Go.RowKit

/-- The set m is closed under rule i. -/
def RuleCl (D : Rules) (s : Nat → Prop) (i : Nat) : Prop := s (D.rol i).toNat → s (D.adm i).toNat ∧ ∀ j, j < D.pl i → s (D.lit i j).toNat
def PairCl (f g : Nat → Int) (s : Nat → Prop) (i : Nat) : Prop := s (g i).toNat → s (f i).toNat
def Closed (D : Rules) (l : Nat) (f g : Nat → Int) (s : Nat → Prop) : Prop := (∀ i, i < D.n → RuleCl D s i) ∧ ∀ i, i < l → PairCl f g s i

/-- Everything that m marks lies in every closed set that holds the goal. -/
def Sound (D : Rules) (l : Nat) (f g : Nat → Int) (goal : Nat) (m : Nat → Bool) : Prop :=
  ∀ s : Nat → Prop, s goal → Closed D l f g s → ∀ x, m x = true → s x

def Least (D : Rules) (l : Nat) (f g : Nat → Int) (goal : Nat) (m : Nat → Bool) : Prop :=
  m goal = true ∧ Closed D l f g (fun x => m x = true) ∧ Sound D l f g goal m

theorem least_unique {D : Rules} {l : Nat} {f g : Nat → Int} {goal : Nat} {m m' : Nat → Bool} (h : Least D l f g goal m) (h' : Least D l f g goal m') (x : Nat) : m x = m' x := by
  have a := h.2.2 _ h'.1 h'.2.1 x
  have b := h'.2.2 _ h.1 h.2.1 x
  cases e : m x <;> cases e' : m' x <;> simp_all

/-! ### how many are marked -/
def cnt (m : Nat → Bool) : Nat → Nat
  | 0 => 0
  | n + 1 => cnt m n + (if m n = true then 1 else 0)

def upd (m : Nat → Bool) (x : Nat) : Nat → Bool := fun y => if y = x then true else m y

theorem cnt_le (m : Nat → Bool) (n : Nat) : cnt m n ≤ n := by
  induction n with
  | zero => exact Nat.le_refl _
  | succ n ih => simp only [cnt]; split <;> omega

theorem cnt_upd_out (m : Nat → Bool) (x n : Nat) (h : n ≤ x) : cnt (upd m x) n = cnt m n := by
  induction n with
  | zero => rfl
  | succ n ih =>
    simp only [cnt]
    rw [ih (by omega)]
    simp only [upd, if_neg (show ¬ n = x by omega)]

theorem cnt_upd (m : Nat → Bool) (x n : Nat) (hx : x < n) (hm : m x = false) : cnt (upd m x) n = cnt m n + 1 := by
  induction n with
  | zero => omega
  | succ n ih =>
    simp only [cnt]
    by_cases e : x = n
    · subst e
      rw [cnt_upd_out _ _ _ (Nat.le_refl _)]
      simp [upd, hm]
    · rw [ih (by omega)]
      simp only [upd, if_neg (show ¬ n = x by omega)]
      omega

theorem cnt_pos (m : Nat → Bool) (x n : Nat) (hx : x < n) (hm : m x = true) : 1 ≤ cnt m n := by
  induction n with
  | zero => omega
  | succ n ih =>
    simp only [cnt]
    by_cases e : x = n
    · subst e; simp [hm]
    · have := ih (by omega); omega

theorem upd_true {m : Nat → Bool} {x y : Nat} (h : upd m x y = true) : y = x ∨ m y = true := by
  unfold upd at h
  split at h
  · exact .inl ‹_›
  · exact .inr h
theorem upd_same (m : Nat → Bool) (x : Nat) : upd m x x = true := by simp [upd]
theorem upd_mono {m : Nat → Bool} {x y : Nat} (h : m y = true) : upd m x y = true := by unfold upd; split <;> simp [h]

/-- x may be marked: it lies in every closed set that holds the goal. -/
theorem Sound.mark {D : Rules} {l : Nat} {f g : Nat → Int} {goal : Nat} {m : Nat → Bool} (h : Sound D l f g goal m) {x : Nat} (hx : ∀ s : Nat → Prop, Closed D l f g s → (∀ y, m y = true → s y) → s x) : Sound D l f g goal (upd m x) := by
  intro s hs hc y hy
  rcases upd_true hy with rfl | hy
  · exact hx s hc fun z hz => h s hs hc z hz
  · exact h s hs hc y hy

theorem sound_start (D : Rules) (l : Nat) (f g : Nat → Int) (goal : Nat) : Sound D l f g goal (upd (fun _ => false) goal) := by
  intro s hs _ y hy
  rcases upd_true hy with rfl | hy
  · exact hs
  · cases hy

/-! ### a row of bools of the call's own -/
def MRow (w : World) (n : Nat) (m : Nat → Bool) (wr : World) : Prop := Own w n wr ∧ ∀ x, x < n → wr.cell? ⟨w.heap.size, x, none⟩ = some (.bool (m x))

theorem MRow.mark {w wr : World} {n : Nat} {m : Nat → Bool} (h : MRow w n m wr) {x : Nat} (hx : x < n) : MRow w n (upd m x) (wr.setCell ⟨w.heap.size, x, none⟩ (.bool true)) := by
  refine ⟨h.1.set hx _, fun y hy => ?_⟩
  rw [cell_set _ (h.1.2.2.2 x hx)]
  unfold upd
  split
  · rfl
  · exact h.2 y hy

theorem Try.info4 : (Try.prog.info? 4).map (fun i => (i.zero, i.size, i.bytes)) = some (some (.bool false), 1, 1) := by kernel_rfl

theorem mrow_start {w w1 : World} {n : Nat} (hown : w1.ownsRow w.heap.size 4 1 (.slice (some ⟨w.heap.size, 0, none⟩) n n) n (madeCells (Value.bool false).cells (n * 1)).toList) (hg : w.grownBy w1 none) : MRow w n (fun _ => false) w1 := by
  have h := own_start hown hg
  rw [Nat.mul_one] at h
  refine ⟨h, fun i hi => ?_⟩
  rw [hown.cellAt i (by omega)]
  have e : (Value.bool false).cells = #[.bool false] := rfl
  rw [e, toList_madeCells_one, Nat.mul_one, List.getElem?_replicate, if_pos hi]

/-! ### the state of the naive sweep -/
def NS (w : World) (roles goal : Nat) (D : Rules) (l : Nat) (f g : Nat → Int) (p : Nat) (m : Nat → Bool) (ch : Bool) (Q : Prop) (wr : World) : Prop :=
  MRow w roles m wr ∧ m goal = true ∧ Sound D l f g goal m ∧ p + 1 ≤ cnt m roles ∧ (ch = true → p + 2 ≤ cnt m roles) ∧ (ch = false → Q)

theorem NS.mark {w wr : World} {roles goal : Nat} {D : Rules} {l : Nat} {f g : Nat → Int} {p : Nat} {m : Nat → Bool} {ch : Bool} {Q Q' : Prop} (h : NS w roles goal D l f g p m ch Q wr) {x : Nat} (hx : x < roles) (hm : m x = false)
    (hr : ∀ s : Nat → Prop, Closed D l f g s → (∀ y, m y = true → s y) → s x) : NS w roles goal D l f g p (upd m x) true Q' (wr.setCell ⟨w.heap.size, x, none⟩ (.bool true)) := by
  obtain ⟨h1, h2, h3, h4, h5, h6⟩ := h
  have hc := cnt_upd m x roles hx hm
  exact ⟨h1.mark hx, upd_mono h2, h3.mark hr, by omega, fun _ => by omega, fun h => by cases h⟩

theorem NS.say {w wr : World} {roles goal : Nat} {D : Rules} {l : Nat} {f g : Nat → Int} {p : Nat} {m : Nat → Bool} {ch : Bool} {Q Q' : Prop} (h : NS w roles goal D l f g p m ch Q wr) (hq : ch = false → Q → Q') : NS w roles goal D l f g p m ch Q' wr :=
  ⟨h.1, h.2.1, h.2.2.1, h.2.2.2.1, h.2.2.2.2.1, fun e => hq e (h.2.2.2.2.2 e)⟩

end Go.Proofs.Qxb6605479a
