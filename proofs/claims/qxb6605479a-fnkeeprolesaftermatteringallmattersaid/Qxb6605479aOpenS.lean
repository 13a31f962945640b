/-
  From the readings of slices of strings and of assignments to what the walks ask.
-/
import Derived.Test.Qxb6605479aOpen
import Derived.Test.Qxb6605479aKMem
namespace Go.Proofs.Qxb6605479a
open Go.RowKit Go.ChangeShapes Go.WideShapes Go.ChangeAt Go.Deep

theorem Try.cells9 : Try.prog.cellsOf 9 = 1 := by kernel_rfl
theorem Try.cells67 : Try.prog.cellsOf 67 = 2 := by kernel_rfl

theorem strs_open {H : Type} {enc : TypeId × Value → H} {W : World} {fuel : Nat} {a : Option Addr} {len cap : Nat} {x : DataW H × List MemPlace} (h : DataW.trod enc Try.prog W 0 (fun _ => true) true fuel 51 [.slice a len cap] = some x) :
    ∃ ss, (a = none → len = 0 ∧ cap = 0) ∧ len ≤ maxLen ∧ StrsAt W.heap.size W a len ss := by
  rcases open_slice1 Try.underlying51 Try.cells9 h with ⟨e, _⟩ | ⟨a', len', cap', m, n, V, E, Pl, e, _, hl, hm, hmm, _, hx⟩
  · simp at e
    obtain ⟨rfl, rfl, rfl⟩ := e
    exact ⟨fun _ => ByteArray.empty, fun _ => ⟨rfl, rfl⟩, by unfold maxLen; omega, .inl rfl⟩
  · simp at e
    obtain ⟨rfl, rfl, rfl⟩ := e
    simp only [if_true] at hmm
    subst hmm
    obtain ⟨ss, hss⟩ := choose_lt (α := ByteArray) (n := m) (p := fun i z => V i = .string z) (fun i hi => by
      obtain ⟨z, e0, _⟩ := DataW.trod_string Try.underlying9 (hx i hi).2
      exact ⟨z, by simpa using e0⟩)
    refine ⟨ss, by simp, by omega, ?_⟩
    by_cases h0 : len = 0
    · exact .inl h0
    · obtain ⟨b, off, rfl, hb⟩ := addr_plain (hx 0 (by omega)).1
      refine .inr ⟨b, off, rfl, hb, fun j hj => ?_⟩
      have c0 := (hx j (by omega)).1
      rw [hss j (by omega), add_plain] at c0
      exact c0
end Go.Proofs.Qxb6605479a
