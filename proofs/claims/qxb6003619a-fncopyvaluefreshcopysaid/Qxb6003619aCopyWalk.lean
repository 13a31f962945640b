/-
  zzSameBytes by a contract; then the walk of FnCopyValueFreshCopy.
-/
import Derived.Test.Qxb6003619aCopyMain
namespace Go.Proofs.Qxb6003619a
open Go.RowKit

theorem below_drewN {B : Nat} {a w : World} (h : Below B a w) (n : Nat) : Below B a (w.drewN n) := h.trans ⟨rfl, rfl, rfl, Nat.le_refl _, fun _ _ => rfl⟩

set_option maxHeartbeats 400000 in
theorem same8_pos (b0 o0 b1 o1 n c0 c1 : Nat) (f : Nat → Int) (w : World) (hb0 : b0 < w.heap.size) (hb1 : b1 < w.heap.size)
    (hf : ∀ i, i < n → w.cell? ⟨b0, o0 + i, none⟩ = some (.int .u8 (f i))) (hg : ∀ i, i < n → w.cell? ⟨b1, o1 + i, none⟩ = some (.int .u8 (f i))) (hl : n ≤ 524288) :
    Calls Try.prog 8 #[.slice (some ⟨b0, o0, none⟩) n c0, .slice (some ⟨b1, o1, none⟩) n c1] w fun e w' => e = .returned (.bool true) ∧ Below w.heap.size w w' := by
  go_enter Try.func8, Try.ntmps8
  go_wp2
  go_loopw [5] (fun i wr => ∃ k : Nat, k ≤ n ∧ i = .int .i64 k ∧ Below w.heap.size w wr) (fun i _ => n - (intOf i).toNat)
  case atStart => exact ⟨0, Nat.zero_le _, rfl, Below.refl _ _⟩
  case round =>
    obtain ⟨k, hk, rfl, hb⟩ := hrel
    by_cases hkl : k < n
    · have hcf : wr.cell? ⟨b0, o0 + k, none⟩ = some (.int .u8 (f k)) := (hb.cell (by exact hb0)).trans (hf k hkl)
      have hcg : wr.cell? ⟨b1, o1 + k, none⟩ = some (.int .u8 (f k)) := (hb.cell (by exact hb1)).trans (hg k hkl)
      have hki : (k : Int) < (n : Int) := by omega
      have hk0 : (0 : Int) ≤ (k : Int) := by omega
      clear hf hg
      go_wp2
      go_quiet (fail)
      go_wp2
      go_roundw
      case rel => exact ⟨k + 1, by omega, by go_num, below_drewN hb _⟩
      case measure => simp [intOf]; omega
    · obtain rfl : k = n := by omega
      clear hf hg
      go_wp2
      go_ret
      exact ⟨rfl, hb⟩

set_option maxHeartbeats 400000 in
theorem same8_zero (a b : Option Addr) (c0 c1 : Nat) (w : World) :
    Calls Try.prog 8 #[.slice a 0 c0, .slice b 0 c1] w fun e w' => e = .returned (.bool true) ∧ Below w.heap.size w w' := by
  go_enter Try.func8, Try.ntmps8
  go_wp2
  refine wp_loop_rounds 1 ?_
  rw [rounds_succ]
  go_wp2
  go_ret
  exact ⟨rfl, Below.refl _ _⟩

theorem same8_any (a b : Option Addr) (n c0 c1 : Nat) (f : Nat → Int) (w : World) (h0 : RowAt w.heap.size w a n f) (h1 : RowAt w.heap.size w b n f) (hl : n ≤ 524288) :
    Calls Try.prog 8 #[.slice a n c0, .slice b n c1] w fun e w' => e = .returned (.bool true) ∧ Below w.heap.size w w' := by
  by_cases e0 : n = 0
  · subst e0
    exact same8_zero a b c0 c1 w
  · rcases h0 with h | ⟨b0, o0, rfl, hb0, hf⟩
    · exact absurd h e0
    rcases h1 with h | ⟨b1, o1, rfl, hb1, hg⟩
    · exact absurd h e0
    exact same8_pos b0 o0 b1 o1 n c0 c1 f w hb0 hb1 hf hg hl

/-! ### the walk -/
theorem Own.below {w w' : World} {b n : Nat} {f : Nat → Int} (h : Own w b n f) (hb : Below w.heap.size w w') : Own w' b n f :=
  ⟨Nat.lt_of_lt_of_le h.1 hb.size, fun i => (hb.frozen h.1).trans (h.2.1 i), fun i hi => (hb.cell h.1).trans (h.2.2 i hi)⟩

theorem Own.row {w : World} {b n : Nat} {f : Nat → Int} (h : Own w b n f) : RowAt w.heap.size w (some ⟨b, 0, none⟩) n f :=
  .inr ⟨b, 0, rfl, h.1, fun i hi => by rw [Nat.zero_add]; exact h.2.2 i hi⟩

/-- The byte with every bit turned, as the model answers it. -/
def inv8 (x : Int) : Int := bits .xor .u8 255 x

/-- What the first loop holds in its k-th round. -/
def Flip (w3 wr : World) (b n : Nat) (f : Nat → Int) (k : Nat) : Prop :=
  Below w3.heap.size w3 wr ∧ w3.heap.size ≤ b ∧ Own wr b n (fun i => if i < k then inv8 (f i) else f i)

theorem Flip.store {w3 wr : World} {b n : Nat} {f : Nat → Int} {k : Nat} (h : Flip w3 wr b n f k) (hk : k < n) : Flip w3 (wr.setCell ⟨b, k, none⟩ (.int .u8 (inv8 (f k)))) b n f (k + 1) := by
  obtain ⟨h1, h2, h3, h4, h5⟩ := h
  have hs : (wr.setCell ⟨b, k, none⟩ (.int .u8 (inv8 (f k)))).cell? ⟨b, k, none⟩ = some (.int .u8 (inv8 (f k))) :=
    World.cell?_setCell_same _ _ _ (h5 k hk)
  have ho : ∀ i, i ≠ k → (wr.setCell ⟨b, k, none⟩ (.int .u8 (inv8 (f k)))).cell? ⟨b, i, none⟩ = wr.cell? ⟨b, i, none⟩ := fun i hi =>
    World.cell?_setCell_other _ _ _ _ (by intro h; injection h with _ h2; omega)
  refine ⟨h1.setCell h2 _, h2, by simpa using h3, fun i => by simpa using h4 i, fun i hi => ?_⟩
  by_cases e : i = k
  · subst e; rw [hs]; simp
  · rw [ho i e, h5 i hi]
    by_cases h' : i < k
    · have h2' : i < k + 1 := by omega
      simp [h', h2']
    · have h2' : ¬ i < k + 1 := by omega
      simp [h', h2']

theorem Flip.done {w3 wr : World} {b n : Nat} {f : Nat → Int} (h : Flip w3 wr b n f n) : Own wr b n (fun i => inv8 (f i)) :=
  ⟨h.2.2.1, h.2.2.2.1, fun i hi => by rw [h.2.2.2.2 i hi]; simp [hi]⟩

set_option maxHeartbeats 1000000 in
theorem copy_main (a0 a1 : Option Addr) (l0 c0 n c1 : Nat) (f0 f : Nat → Int) (e s : Int) (w : World) (z0 : a0 = none → l0 = 0 ∧ c0 = 0) (z1 : a1 = none → n = 0 ∧ c1 = 0)
    (r0 : RowAt w.heap.size w a0 l0 f0) (r1 : RowAt w.heap.size w a1 n f) (h0 : l0 ≤ 524288) (h1 : n ≤ 524288) :
    Calls Try.prog 3 #[.slice a0 l0 c0, .slice a1 n c1, .int .i64 e, .int .i64 s] w fun e w' => e = .returned (.bool true) ∧ Below w.heap.size w w' := by
  have Z0 := hid z0
  have Z1 := hid z1
  have R0 := hid r0
  have R1 := hid r1
  clear z0 z1 r0 r1
  go_enter Try.func3, Try.ntmps3
  go_wp2_with fail
  refine (bytes5_any _ _ _ _ _ _ _ _ (by unfold maxLen; omega) (by unfold maxLen; omega) _).mono ?_
  rintro e' w' ⟨⟨b, rfl⟩, rfl⟩
  cases b
  · go_wp2
    go_ret
    exact ⟨rfl, Below.refl _ _⟩
  go_wp2_with fail
  refine (clone_any _ _ _ f0 _ Z0.out R0.out h0).mono ?_
  rintro e' w1 ⟨ak, rfl, _, _, hb1⟩
  have R1 := hid (R1.out.below hb1 hb1.size)
  have B1 := hid hb1
  clear R0 hb1
  go_wp2_with fail
  refine (clone_any _ _ _ f _ Z1.out R1.out h1).mono ?_
  rintro e' w2 ⟨av, rfl, zv, rv, hb2⟩
  have B2 := hid (B1.out.trans (hb2.mono B1.out.size))
  have RV := hid rv
  have ZV := hid zv
  clear R1 B1 hb2 rv zv
  go_wp2_with fail
  refine (clone_any _ _ _ f _ ZV.out RV.out h1).mono ?_
  rintro e' w3 ⟨aw, rfl, zw, rw', hb3⟩
  have B3 := hid (B2.out.trans (hb3.mono B2.out.size))
  have RV := hid (RV.out.below hb3 hb3.size)
  have RW := hid rw'
  clear B2 hb3 rw' zw ZV
  go_wp2_with fail
  refine (copy7_any _ _ _ _ _ _ _ _ f _ RV.out h1).mono ?_
  rintro e' w4 ⟨b, rfl, hB, ho, hb4⟩
  have HO := hid ho
  have B4 := hid hb4
  have HB := hid hB
  clear ho hb4 hB
  go_wp2_with fail
  refine (same8_any _ _ _ _ _ f _ HO.out.row (RW.out.below B4.out B4.out.size) h1).mono ?_
  rintro e' w5 ⟨rfl, hb5⟩
  have HF : Hid (Flip w3 w5 b n f 0) := hid ⟨B4.out.trans (hb5.mono B4.out.size), HB.out, by simpa using HO.out.below hb5⟩
  clear HO B4 hb5
  go_wp2_with fail
  go_loopw [11] (fun i wr => ∃ k : Nat, k ≤ n ∧ i = .int .i64 k ∧ Hid (Flip w3 wr b n f k)) (fun i _ => n - (intOf i).toNat)
  case atStart => exact ⟨0, Nat.zero_le _, rfl, HF⟩
  case round =>
    clear HF
    obtain ⟨k, hk, rfl, HF⟩ := hrel
    by_cases hkl : k < n
    · have hst := hid (HF.out.store hkl)
      have hc : wr.cell? ⟨b, k, none⟩ = some (.int .u8 (f k)) := by simpa using HF.out.2.2.2.2 k hkl
      have hfz := HF.out.2.2.2.1 k
      go_wp2
      go_roundw
      case rel => exact ⟨k + 1, by omega, by go_num, hst⟩
      case measure => simp [intOf]; omega
    · have e : k = n := by omega
      subst e
      have HO := hid HF.out.done
      have B5 := hid HF.out.1
      clear HF
      go_wp2_with fail
      refine (same8_any _ _ _ _ _ f _ (RV.out.below B5.out B5.out.size) (RW.out.below B5.out B5.out.size) h1).mono ?_
      rintro e' w6 ⟨rfl, hb6⟩
      have HO := hid (HO.out.below hb6)
      have B6 := hid (B5.out.trans (hb6.mono B5.out.size))
      clear B5 hb6
      go_wp2_with fail
      refine (copy7_any _ _ _ _ _ _ _ _ f _ (RV.out.below B6.out B6.out.size) h1).mono ?_
      rintro e' w7 ⟨b2, rfl, hB2, ho2, hb7⟩
      have HO := hid (HO.out.below hb7)
      have B7 := hid (B6.out.trans (hb7.mono B6.out.size))
      have HO2 := hid ho2
      clear B6 hb7 ho2 hB2
      go_wp2_with fail
      refine (same8_any _ _ _ _ _ f _ HO2.out.row (RW.out.below B7.out B7.out.size) h1).mono ?_
      rintro e' w8 ⟨rfl, hb8⟩
      have HO := hid (HO.out.below hb8)
      have B8 := hid (B7.out.trans (hb8.mono B7.out.size))
      clear B7 hb8 HO2
      go_wp2_with fail
      go_loopw [13] (fun i wr => ∃ k' : Nat, k' ≤ k ∧ i = .int .i64 k' ∧ Hid (Below w3.heap.size w3 wr ∧ Own wr b k (fun i => inv8 (f i)))) (fun i _ => k - (intOf i).toNat)
      case atStart => exact ⟨0, Nat.zero_le _, rfl, hid ⟨B8.out, HO.out⟩⟩
      case round =>
        clear HO B8
        obtain ⟨k', hk', rfl, HF⟩ := hrel
        by_cases hkl' : k' < k
        · rcases RW.out with h | ⟨bw, ow, rfl, hltw, hcw⟩
          · omega
          have hc : wr.cell? ⟨b, k', none⟩ = some (.int .u8 (inv8 (f k'))) := HF.out.2.2.2 k' hkl'
          have hcw' : wr.cell? ⟨bw, ow + k', none⟩ = some (.int .u8 (f k')) := (HF.out.1.cell (by exact hltw)).trans (hcw k' hkl')
          have hki : (k' : Int) < (k : Int) := by omega
          have hk0 : (0 : Int) ≤ (k' : Int) := by omega
          clear hcw
          have hq : (inv8 (f k') != bits .xor .u8 (if IntKind.u8.signed = true then -1 else IntKind.u8.max) (f k')) = false := by
            have e : bits .xor .u8 (if IntKind.u8.signed = true then -1 else IntKind.u8.max) (f k') = inv8 (f k') := rfl
            rw [e]; simp
          go_wp2
          go_quiet (fail)
          go_wp2
          go_roundw
          case rel => exact ⟨k' + 1, by omega, by go_num, hid ⟨below_drewN HF.out.1 _, HF.out.2⟩⟩
          case measure => simp [intOf]; omega
        · have e : k' = k := by omega
          subst e
          go_wp2
          go_ret
          exact ⟨rfl, B3.out.trans (HF.out.1.mono B3.out.size)⟩

end Go.Proofs.Qxb6003619a
