/-
  copyValue and zzSameBytes by contracts; then the walk of FnCopyValueFreshCopy.
-/
import Derived.Test.Qxb6003619aCopyBase
namespace Go.Proofs.Qxb6003619a
open Go.RowKit

theorem hid {p : Prop} (h : p) : Hid p := h

theorem add_plain0 (b off j : Nat) : (⟨b, off, none⟩ : Addr).add j = ⟨b, off + j, none⟩ := by simp [Addr.add]

theorem made10 {w w1 : World} {ka a : Option Addr} {kl kc len cap : Nat} {e s : Int}
    (hown : w1.ownsRow w.heap.size 5 1 (.slice (some ⟨(w.alloc (.cells #[.slice ka kl kc, .slice a len cap, .int .i64 e, .int .i64 s] 35)).heap.size, 0, none⟩) len len) len (madeCells (Value.int .u8 0).cells (len * 1)).toList)
    (hg : (w.alloc (.cells #[.slice ka kl kc, .slice a len cap, .int .i64 e, .int .i64 s] 35)).grownBy w1 none) :
    w1.cell? ⟨w.heap.size, 1, none⟩ = some (.slice a len cap) ∧ Below w.heap.size w w1 ∧ ∃ cur : List Value, cur.length = len ∧ w1.heap[w.heap.size + 1]? = some (.cells cur.toArray 5 (0, 0)) := by
  have hsz : (w.alloc (.cells #[.slice ka kl kc, .slice a len cap, .int .i64 e, .int .i64 s] 35)).heap.size = w.heap.size + 1 := by simp
  have hb : Below (w.heap.size + 1) (w.alloc (.cells #[.slice ka kl kc, .slice a len cap, .int .i64 e, .int .i64 s] 35)) w1 := (Below.refl _ _).grown hg (by simp) (by simp)
  refine ⟨?_, ((Below.refl _ _).alloc (Nat.le_refl _) _).trans (hb.mono (by omega)), ?_⟩
  · rw [hb.cell (by simp)]
    simp [go_sem]
  · rw [hsz] at hown
    obtain ⟨_, h | ⟨g, cap', cur, e', _, hg', _, _, hs, _⟩⟩ := hown
    · simp at h
    · simp at e'
      obtain ⟨rfl, rfl⟩ := e'
      exact ⟨cur.toList, by simpa using hs, by simpa using hg'⟩

set_option maxHeartbeats 400000 in
theorem copy10_any (ka : Option Addr) (kl kc : Nat) (a : Option Addr) (len cap : Nat) (e s : Int) (f : Nat → Int) (w : World) (hr : RowAt w.heap.size w a len f) (hl : len ≤ 524288) :
    Calls Try.prog 10 #[.agg #[.slice ka kl kc, .slice a len cap, .int .i64 e, .int .i64 s]] w fun e w' => ∃ b, e = .returned (.slice (some ⟨b, 0, none⟩) len len) ∧ w.heap.size ≤ b ∧ Own w' b len f ∧ Below w.heap.size w w' := by
  obtain ⟨i0, hi, hz0, hz1, hz2⟩ := info_parts Try.info5
  have hb8 : i0.bytes * len ≤ 281474976710656 := by rw [hz2]; omega
  have hml : len ≤ maxLen := by unfold maxLen; omega
  have HR := hid hr
  clear hr
  go_enter Try.func10, Try.ntmps10
  go_wp2_with (first
    | (at_make; refine wpList_make_full _ rfl _ _ 22 rfl w.heap.size 5 i0 (.int .u8 0) 1 Try.underlying22 hi hz0 hz1 .i64 .i64 len len len rfl rfl rfl rfl hb8 hml (by simp) ?_; intro w1 hown hgrow; obtain ⟨hc1, hb1, cur, hcl, hg1⟩ := made10 hown hgrow; have HB := hid hb1; have HG := hid hg1; clear hown hgrow hb1 hg1)
    | (refine wpList_copy_splice rfl (.tmp 8) (.tmp 10) 22 22 rfl 5 Try.underlying22 Try.size5 (some ⟨w.heap.size + 1, 0, none⟩) a len len len cap rfl rfl (w.heap.size + 1) 0 cur 5 HG.out (u8s f len) (by simp [length_u8s]) (fun hp => ⟨rfl, by
        rw [length_u8s] at hp
        rcases HR.out with h | ⟨b, off, rfl, hlt, hc⟩
        · omega
        · refine ⟨_, rfl, fun j v hj => ?_⟩
          by_cases h : j < len
          · rw [get_u8s f len j h] at hj
            injection hj with hj
            subst hj
            rw [add_plain0]
            exact (HB.out.cell (by exact hlt)).trans (hc j h)
          · rw [List.getElem?_eq_none (by rw [length_u8s]; omega)] at hj
            cases hj⟩) (by rw [length_u8s]; omega) (one_u8s f len) w.heap.size w HB.out (by omega) ?_; intro w2 HG2 hB2))
  go_ret
  exact ⟨_, rfl, by omega, own_of hcl hml HG2.out, hB2⟩

set_option maxHeartbeats 400000 in
theorem copy7_any (ka : Option Addr) (kl kc : Nat) (a : Option Addr) (len cap : Nat) (e s : Int) (f : Nat → Int) (w : World) (hr : RowAt w.heap.size w a len f) (hl : len ≤ 524288) :
    Calls Try.prog 7 #[.slice ka kl kc, .slice a len cap, .int .i64 e, .int .i64 s] w fun e w' => ∃ b, e = .returned (.slice (some ⟨b, 0, none⟩) len len) ∧ w.heap.size ≤ b ∧ Own w' b len f ∧ Below w.heap.size w w' := by
  go_enter Try.func7, Try.ntmps7
  go_wp2_with (go_at_call 10; refine (copy10_any ka kl kc a len cap e s f w hr hl).mono ?_; rintro e w' ⟨b, rfl, h1, h2, h3⟩; have H := hid (And.intro h1 (And.intro h2 h3)); clear h1 h2 h3)
  go_ret
  exact ⟨_, rfl, H.out.1, H.out.2.1, H.out.2.2⟩

end Go.Proofs.Qxb6003619a
