/-
  How the rule lists lie in memory.
-/
import Derived.Test.Qxb6605479aRows
import Derived.WalkKit
import Derived.WalkSpells
import Derived.WalkLawsBesides
namespace Go.Proofs.Qxb6605479a
open Go.RowKit

/-- A list of can-assign rules, as plain data: rule i has the administrator adm i, gives rol i, asks for the pl i literals lit i j, neg i j. -/
structure Rules where
  n : Nat
  adm : Nat → Int
  rol : Nat → Int
  pl : Nat → Nat
  lit : Nat → Nat → Int
  neg : Nat → Nat → Bool

/-- A slice of literals lies below block B. -/
def PreAt (B : Nat) (w : World) (a : Option Addr) (n : Nat) (lit : Nat → Int) (neg : Nat → Bool) : Prop :=
  n = 0 ∨ ∃ b off, a = some ⟨b, off, none⟩ ∧ b < B ∧ ∀ j, j < n → w.cell? ⟨b, off + j * 2, none⟩ = some (.int .i64 (lit j)) ∧ w.cell? ⟨b, off + j * 2 + 1, none⟩ = some (.bool (neg j))

/-- One rule lies at offset o of block b. -/
def RuleAt (B : Nat) (w : World) (b o : Nat) (adm rol : Int) (pl : Nat) (lit : Nat → Int) (neg : Nat → Bool) : Prop :=
  ∃ pa pc, w.cell? ⟨b, o, none⟩ = some (.int .i64 adm) ∧ w.cell? ⟨b, o + 1, none⟩ = some (.slice pa pl pc) ∧ w.cell? ⟨b, o + 2, none⟩ = some (.int .i64 rol) ∧ (pa = none → pl = 0) ∧ PreAt B w pa pl lit neg

/-- A slice of can-assign rules lies below block B. -/
def CAat (B : Nat) (w : World) (a : Option Addr) (D : Rules) : Prop :=
  D.n = 0 ∨ ∃ b off, a = some ⟨b, off, none⟩ ∧ b < B ∧ ∀ i, i < D.n → RuleAt B w b (off + i * 3) (D.adm i) (D.rol i) (D.pl i) (D.lit i) (D.neg i)

/-- A slice of pairs of ints (can-revoke rules, assignments) lies below block B. -/
def PairsAt (B : Nat) (w : World) (a : Option Addr) (n : Nat) (f g : Nat → Int) : Prop :=
  n = 0 ∨ ∃ b off, a = some ⟨b, off, none⟩ ∧ b < B ∧ ∀ i, i < n → w.cell? ⟨b, off + i * 2, none⟩ = some (.int .i64 (f i)) ∧ w.cell? ⟨b, off + i * 2 + 1, none⟩ = some (.int .i64 (g i))

theorem PreAt.below {B B' : Nat} {w w' : World} {a : Option Addr} {n : Nat} {lit : Nat → Int} {neg : Nat → Bool} (h : PreAt B w a n lit neg) (hb : Below B w w') (hB : B ≤ B') : PreAt B' w' a n lit neg := by
  rcases h with h | ⟨b, off, rfl, hlt, hc⟩
  · exact .inl h
  · exact .inr ⟨b, off, rfl, by omega, fun j hj => ⟨(hb.cell hlt).trans (hc j hj).1, (hb.cell hlt).trans (hc j hj).2⟩⟩

theorem RuleAt.below {B B' : Nat} {w w' : World} {b o : Nat} {adm rol : Int} {pl : Nat} {lit : Nat → Int} {neg : Nat → Bool} (h : RuleAt B w b o adm rol pl lit neg) (hlt : b < B) (hb : Below B w w') (hB : B ≤ B') : RuleAt B' w' b o adm rol pl lit neg := by
  obtain ⟨pa, pc, h1, h2, h3, h4, h5⟩ := h
  exact ⟨pa, pc, (hb.cell hlt).trans h1, (hb.cell hlt).trans h2, (hb.cell hlt).trans h3, h4, h5.below hb hB⟩

theorem CAat.below {B B' : Nat} {w w' : World} {a : Option Addr} {D : Rules} (h : CAat B w a D) (hb : Below B w w') (hB : B ≤ B') : CAat B' w' a D := by
  rcases h with h | ⟨b, off, rfl, hlt, hc⟩
  · exact .inl h
  · exact .inr ⟨b, off, rfl, by omega, fun i hi => (hc i hi).below hlt hb hB⟩

theorem PairsAt.below {B B' : Nat} {w w' : World} {a : Option Addr} {n : Nat} {f g : Nat → Int} (h : PairsAt B w a n f g) (hb : Below B w w') (hB : B ≤ B') : PairsAt B' w' a n f g := by
  rcases h with h | ⟨b, off, rfl, hlt, hc⟩
  · exact .inl h
  · exact .inr ⟨b, off, rfl, by omega, fun j hj => ⟨(hb.cell hlt).trans (hc j hj).1, (hb.cell hlt).trans (hc j hj).2⟩⟩

theorem ret_int {k : IntKind} {a b : Int} (h : a = b) : Ending.returned (.int k a) = .returned (.int k b) := by rw [h]
theorem ret_bool {a b : Bool} (h : a = b) : Ending.returned (.bool a) = .returned (.bool b) := by rw [h]

theorem Try.cells37 : Try.prog.cellsOf 37 = 3 := by kernel_rfl
theorem Try.cells48 : Try.prog.cellsOf 48 = 2 := by kernel_rfl
theorem Try.cells50 : Try.prog.cellsOf 50 = 2 := by kernel_rfl

end Go.Proofs.Qxb6605479a
