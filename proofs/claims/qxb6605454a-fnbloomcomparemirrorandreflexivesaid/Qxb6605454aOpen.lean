/-
  From the shell's 'IsRow' to what the walks ask.
-/
import Derived.Test.Qxb6605454aBase
import Derived.ProofKit
import Derived.OpenShut
namespace Go.Proofs.Qxb6605454a
open Go.RowKit Go.ChangeShapes Go.WideShapes Go.ChangeAt

theorem row_open {w : World} {a : Option Addr} {len cap : Nat} {zs : List Int}
    (h : (a = none ∧ len = 0 ∧ cap = 0 ∧ zs = []) ∨
      ∃ x, a = some x ∧ len ≤ cap ∧ cap ≤ maxLen ∧ zs.length = cap ∧ (∀ i, i < zs.length → w.cell? (x.add i) = some (.int .u64 (zs.getD i 0))) ∧ ∀ n ∈ zs, (Lit.int .u64 n).wf = true) :
    ∃ f : Nat → Int, (a = none → len = 0 ∧ cap = 0) ∧ len ≤ maxLen ∧ RowAt w.heap.size w a len f ∧ ∀ i, i < len → 0 ≤ f i ∧ f i ≤ 18446744073709551615 := by
  rcases h with ⟨rfl, rfl, rfl, rfl⟩ | ⟨x, rfl, hl, hm, hz, hc, hw⟩
  · exact ⟨fun _ => 0, fun _ => ⟨rfl, rfl⟩, by unfold maxLen; omega, .inl rfl, fun i hi => by omega⟩
  · refine ⟨fun i => zs.getD i 0, by simp, by omega, ?_, fun i hi => ?_⟩
    · by_cases h0 : len = 0
      · exact .inl h0
      · have c0 := hc 0 (by omega)
        obtain ⟨b, off, spot⟩ := x
        have hspot : spot = none := by simpa [Addr.add] using World.cell?_spot c0
        subst hspot
        have hb : b < w.heap.size := by simpa [Addr.add] using World.block_lt_of_cell? _ _ c0
        exact .inr ⟨b, off, rfl, hb, fun i hi => by rw [← add_plain]; exact hc i (by omega)⟩
    · have hi' : i < zs.length := by omega
      have e : zs.getD i 0 = zs[i] := by simp [List.getD, hi']
      show 0 ≤ zs.getD i 0 ∧ zs.getD i 0 ≤ 18446744073709551615
      rw [e]
      exact bounds_u64 (hw _ (List.getElem_mem hi'))
end Go.Proofs.Qxb6605454a
