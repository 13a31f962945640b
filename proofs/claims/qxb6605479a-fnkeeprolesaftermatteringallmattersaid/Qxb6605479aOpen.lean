/-
  From the readings of the arguments to what the walks ask.
-/
import Derived.Test.Qxb6605479aMem
import Derived.ProofKit
import Derived.OpenShut
import Derived.Deep.SlicePairs
import Derived.Deep.Strs
namespace Go.Proofs.Qxb6605479a
open Go.RowKit Go.ChangeShapes Go.WideShapes Go.ChangeAt Go.Deep

theorem Try.cells3 : Try.prog.cellsOf 3 = 1 := by kernel_rfl
theorem Try.cells4 : Try.prog.cellsOf 4 = 1 := by kernel_rfl
theorem Try.cells35 : Try.prog.cellsOf 35 = 1 := by kernel_rfl

/-- An address under which a cell lies. -/
theorem addr_plain {w : World} {a : Addr} {v : Value} (h : w.cell? (a.add 0) = some v) : ∃ b off, a = ⟨b, off, none⟩ ∧ b < w.heap.size := by
  obtain ⟨b, off, spot⟩ := a
  have hspot : spot = none := by simpa [Addr.add] using World.cell?_spot h
  subst hspot
  exact ⟨b, off, rfl, by simpa [Addr.add] using World.block_lt_of_cell? _ _ h⟩

section
variable {H : Type} {enc : TypeId × Value → H} {W : World}

theorem pre_open {fuel : Nat} {v : Value} {x : DataW H × List MemPlace} (h : DataW.trod enc Try.prog W 0 (fun _ => true) true fuel 35 [v] = some x) :
    ∃ a n c lit neg, v = .slice a n c ∧ (a = none → n = 0) ∧ PreAt W.heap.size W a n lit neg := by
  rcases open_slice_pairs Try.underlying35 Try.underlying48 Try.cells48 rfl rfl Try.cells3 Try.cells4 h with ⟨e, _⟩ | ⟨a, len, cap, m, n, V0, V1, D0, D1, P0, P1, e, _, hl, hm, hmm, _, hx⟩
  · simp only [List.cons.injEq, and_true] at e
    exact ⟨none, 0, 0, fun _ => 0, fun _ => false, e, fun _ => rfl, .inl rfl⟩
  · simp only [List.cons.injEq, and_true] at e
    simp only [if_true] at hmm
    subst hmm
    obtain ⟨lit, hlit⟩ := choose_lt (α := Int) (n := m) (p := fun i z => V0 i = .int .i64 z) (fun i hi => by
      obtain ⟨z, e0, _⟩ := DataW.trod_int Try.underlying3 (hx i hi).2.2.1
      exact ⟨z, by simpa using e0⟩)
    obtain ⟨neg, hneg⟩ := choose_lt (α := Bool) (n := m) (p := fun i z => V1 i = .bool z) (fun i hi => by
      obtain ⟨z, e0, _⟩ := DataW.trod_bool Try.underlying4 (hx i hi).2.2.2
      exact ⟨z, by simpa using e0⟩)
    refine ⟨some a, len, m, lit, neg, e, by simp, ?_⟩
    by_cases h0 : len = 0
    · exact .inl h0
    · have c := (hx 0 (by omega)).1
      rw [Nat.zero_mul] at c
      obtain ⟨b, off, rfl, hb⟩ := addr_plain c
      refine .inr ⟨b, off, rfl, hb, fun j hj => ?_⟩
      have c0 := (hx j (by omega)).1
      have c1 := (hx j (by omega)).2.1
      rw [hlit j (by omega), add_plain] at c0
      rw [hneg j (by omega), add_plain] at c1
      exact ⟨c0, by rw [Nat.add_assoc]; exact c1⟩

theorem pairs_open {t e : TypeId} {f0 f1 : Field} (ht : Try.prog.underlying t = some (.slice e)) (he : Try.prog.underlying e = some (.struct #[f0, f1])) (ce : Try.prog.cellsOf e = 2) (o0 : f0.offset = 0) (o1 : f1.offset = 1) (t0 : f0.type = 3) (t1 : f1.type = 3)
    {fuel : Nat} {a : Option Addr} {len cap : Nat} {x : DataW H × List MemPlace} (h : DataW.trod enc Try.prog W 0 (fun _ => true) true fuel t [.slice a len cap] = some x) :
    ∃ f g, (a = none → len = 0 ∧ cap = 0) ∧ len ≤ maxLen ∧ PairsAt W.heap.size W a len f g := by
  rcases open_slice_pairs ht he ce o0 o1 (by rw [t0]; exact Try.cells3) (by rw [t1]; exact Try.cells3) h with ⟨e, _⟩ | ⟨a', len', cap', m, n, V0, V1, D0, D1, P0, P1, e, _, hl, hm, hmm, _, hx⟩
  · simp at e
    obtain ⟨rfl, rfl, rfl⟩ := e
    exact ⟨fun _ => 0, fun _ => 0, fun _ => ⟨rfl, rfl⟩, by unfold maxLen; omega, .inl rfl⟩
  · simp at e
    obtain ⟨rfl, rfl, rfl⟩ := e
    simp only [if_true] at hmm
    subst hmm
    rw [t0, t1] at hx
    obtain ⟨f, hf⟩ := choose_lt (α := Int) (n := m) (p := fun i z => V0 i = .int .i64 z) (fun i hi => by
      obtain ⟨z, e0, _⟩ := DataW.trod_int Try.underlying3 (hx i hi).2.2.1
      exact ⟨z, by simpa using e0⟩)
    obtain ⟨g, hg⟩ := choose_lt (α := Int) (n := m) (p := fun i z => V1 i = .int .i64 z) (fun i hi => by
      obtain ⟨z, e0, _⟩ := DataW.trod_int Try.underlying3 (hx i hi).2.2.2
      exact ⟨z, by simpa using e0⟩)
    refine ⟨f, g, by simp, by omega, ?_⟩
    by_cases h0 : len = 0
    · exact .inl h0
    · have c := (hx 0 (by omega)).1
      rw [Nat.zero_mul] at c
      obtain ⟨b, off, rfl, hb⟩ := addr_plain c
      refine .inr ⟨b, off, rfl, hb, fun j hj => ?_⟩
      have c0 := (hx j (by omega)).1
      have c1 := (hx j (by omega)).2.1
      rw [hf j (by omega), add_plain] at c0
      rw [hg j (by omega), add_plain] at c1
      exact ⟨c0, by rw [Nat.add_assoc]; exact c1⟩

theorem ca_open {fuel : Nat} {a : Option Addr} {len cap : Nat} {x : DataW H × List MemPlace} (h : DataW.trod enc Try.prog W 0 (fun _ => true) true fuel 22 [.slice a len cap] = some x) :
    ∃ D : Rules, D.n = len ∧ (a = none → len = 0 ∧ cap = 0) ∧ len ≤ maxLen ∧ CAat W.heap.size W a D := by
  rcases open_slice Try.underlying22 h with ⟨e, _⟩ | ⟨a', len', cap', m, n, E, Pl, e, _, hl, hm, hmm, _, hx⟩
  · simp at e
    obtain ⟨rfl, rfl, rfl⟩ := e
    exact ⟨⟨0, fun _ => 0, fun _ => 0, fun _ => 0, fun _ _ => 0, fun _ _ => false⟩, rfl, fun _ => ⟨rfl, rfl⟩, by unfold maxLen; omega, .inl rfl⟩
  · simp at e
    obtain ⟨rfl, rfl, rfl⟩ := e
    simp only [if_true] at hmm
    subst hmm
    have each : ∀ i, i < m → ∃ q : Int × Int × Nat × (Nat → Int) × (Nat → Bool), ∃ pa pc, W.cell? (a'.add (i * 3)) = some (.int .i64 q.1) ∧ W.cell? (a'.add (i * 3 + 1)) = some (.slice pa q.2.2.1 pc) ∧ W.cell? (a'.add (i * 3 + 2)) = some (.int .i64 q.2.1) ∧
        (pa = none → q.2.2.1 = 0) ∧ PreAt W.heap.size W pa q.2.2.1 q.2.2.2.1 q.2.2.2.2 := by
      intro i hi
      obtain ⟨cs', h1, h2⟩ := hx i hi
      rw [Try.cells37] at h1
      obtain ⟨_, hlen, hcell⟩ := World.cells?_some h1
      obtain ⟨y0, y1, y2, k, _, _, g0, g1, g2⟩ := trod_struct3 Try.underlying37 h2
      match cs', hlen with
      | [v0, v1, v2], _ =>
        have g0' : DataW.trod enc Try.prog W 0 (fun _ => true) true k 3 [v0] = some y0 := by simpa [Try.cells3] using g0
        have g1' : DataW.trod enc Try.prog W 0 (fun _ => true) true k 35 [v1] = some y1 := by simpa [Try.cells35] using g1
        have g2' : DataW.trod enc Try.prog W 0 (fun _ => true) true k 3 [v2] = some y2 := by simpa [Try.cells3] using g2
        obtain ⟨z0, e0, _⟩ := DataW.trod_int Try.underlying3 g0'
        obtain ⟨z2, e2, _⟩ := DataW.trod_int Try.underlying3 g2'
        obtain ⟨pa, pn, pc, lit, neg, e1, hp, hpre⟩ := pre_open g1'
        simp at e0 e2
        subst e0 e1 e2
        have d0 := hcell 0 (by omega)
        have d1 := hcell 1 (by omega)
        have d2 := hcell 2 (by omega)
        rw [add_add] at d0 d1 d2
        exact ⟨(z0, z2, pn, lit, neg), pa, pc, by simpa using d0, by simpa using d1, by simpa using d2, hp, hpre⟩
    obtain ⟨q, hq⟩ := choose_lt each
    refine ⟨⟨len, fun i => (q i).1, fun i => (q i).2.1, fun i => (q i).2.2.1, fun i => (q i).2.2.2.1, fun i => (q i).2.2.2.2⟩, rfl, by simp, by omega, ?_⟩
    by_cases h0 : len = 0
    · exact .inl h0
    · obtain ⟨pa, pc, d0, _⟩ := hq 0 (by omega)
      rw [Nat.zero_mul] at d0
      obtain ⟨b, off, rfl, hb⟩ := addr_plain d0
      refine .inr ⟨b, off, rfl, hb, fun i hi => ?_⟩
      obtain ⟨pa, pc, d0, d1, d2, hp, hpre⟩ := hq i (by show i < m; have : i < len := hi; omega)
      rw [add_plain] at d0 d1 d2
      exact ⟨pa, pc, d0, by rw [Nat.add_assoc]; exact d1, by rw [Nat.add_assoc]; exact d2, hp, hpre⟩
end
end Go.Proofs.Qxb6605479a
