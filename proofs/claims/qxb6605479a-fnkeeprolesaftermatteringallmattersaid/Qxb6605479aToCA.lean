/-
  The conversion of a list of can-assign rules: contract.
-/
import Derived.Test.Qxb6605479aCloneCA
namespace Go.Proofs.Qxb6605479a
open Go.RowKit

set_option maxHeartbeats 400000 in
theorem toCA_zero (x : Addr) (cap : Nat) (w : World) :
    Calls Try.prog 16 #[.slice (some x) 0 cap] w fun e w' => (∃ a', e = .returned (.slice a' 0 0)) ∧ Below w.heap.size w w' := by
  have hq := q22
  obtain ⟨i0, hi, hz0, hz1, hz2⟩ := info_parts Try.info72
  go_enter Try.func16, Try.ntmps16
  go_wp2_with (at_make; refine wpList_make_full _ rfl _ _ 31 rfl w.heap.size 72 i0 (.agg #[.int .i64 0, .slice none 0 0, .int .i64 0]) 3 Try.underlying31 hi hz0 hz1 .i64 .i64 0 0 0 rfl rfl rfl rfl (by omega) (by unfold maxLen; omega) (Nat.le_refl _) ?_; intro w1 hown hgrow)
  refine wp_loop_rounds 1 ?_
  rw [rounds_succ]
  go_wp2
  go_ret
  exact ⟨⟨_, rfl⟩, (Below.refl _ _).grown hgrow (Nat.le_refl _) (by simp)⟩

set_option maxHeartbeats 400000 in
theorem toCA_nil (w : World) :
    Calls Try.prog 16 #[.slice none 0 0] w fun e w' => e = .returned (.slice none 0 0) ∧ w = w' := by
  have hq := q22
  go_enter Try.func16, Try.ntmps16
  go_wp2
  go_ret
  exact ⟨rfl, rfl⟩

set_option maxHeartbeats 2000000 in
theorem toCA_some (b off cap : Nat) (D : Rules) (w : World) (hl : D.n ≤ 65536) (hpl : ∀ i, i < D.n → D.pl i ≤ 65536) (hlt : b < w.heap.size)
    (hc : ∀ i, i < D.n → RuleAt w.heap.size w b (off + i * 3) (D.adm i) (D.rol i) (D.pl i) (D.lit i) (D.neg i)) :
    Calls Try.prog 16 #[.slice (some ⟨b, off, none⟩) D.n cap] w fun e w' => ∃ a', e = .returned (.slice a' D.n D.n) ∧ CAat w'.heap.size w' a' D ∧ Below w.heap.size w w' := by
  have hq := q22
  have hq' := n35
  obtain ⟨i0, hi, hz0, hz1, hz2⟩ := info_parts Try.info72
  have hb8 : i0.bytes * D.n ≤ 281474976710656 := by rw [hz2]; omega
  have hml : D.n ≤ maxLen := by unfold maxLen; omega
  obtain ⟨j0, hj, hy0, hy1, hy2⟩ := info_parts Try.info73
  have hb16 : ∀ p, p ≤ 65536 → j0.bytes * p ≤ 281474976710656 := fun p hp => by rw [hy2]; omega
  have hbm : ∀ p, p ≤ 65536 → p ≤ maxLen := fun p hp => by unfold maxLen; omega
  have HB : Hid (∀ p, p ≤ 65536 → j0.bytes * p ≤ 281474976710656 ∧ p ≤ maxLen) := fun p hp => ⟨hb16 p hp, hbm p hp⟩
  clear hb16 hbm
  go_enter Try.func16, Try.ntmps16
  go_wp2_with (at_make; refine wpList_make_full _ rfl _ _ 31 rfl w.heap.size 72 i0 (.agg #[.int .i64 0, .slice none 0 0, .int .i64 0]) 3 Try.underlying31 hi hz0 hz1 .i64 .i64 D.n D.n D.n rfl rfl rfl rfl hb8 hml (Nat.le_refl _) ?_; intro w1 hown hgrow)
  have HS : HalfCA w D 0 w1 := ⟨own_start hown hgrow, fun i hi => by omega⟩
  clear hown hgrow hb8 hml hi hz0 hz1 hz2
  go_loopw [4] (fun i wr => ∃ k : Nat, k ≤ D.n ∧ i = .int .i64 k ∧ HalfCA w D k wr) (fun i _ => D.n - (intOf i).toNat)
  case atStart => exact ⟨0, Nat.zero_le _, rfl, HS⟩
  case round =>
    obtain ⟨k, hk, rfl, hH⟩ := hrel
    clear HS
    obtain ⟨wo, rfl⟩ : ∃ wo : World, wo = wr := ⟨_, rfl⟩
    by_cases hkl : k < D.n
    · obtain ⟨pa, pc, g1, g2, g3, g4, g5⟩ := (hc k hkl).below hlt hH.1.1 (Nat.le_refl _)
      obtain ⟨bp, bm⟩ := HB.out (D.pl k) (hpl k hkl)
      have hplk := hpl k hkl
      have hki : (k : Int) < (D.n : Int) := by omega
      have hk0 : (0 : Int) ≤ (k : Int) := by omega
      have hnb : ¬ w.heap.size = b := by omega
      clear hc hpl HB
      cases pa with
      | none =>
        have h0 : D.pl k = 0 := g4 rfl
        obtain ⟨v0, hv0⟩ := hH.1.2.2.2 (k * 3) (by omega)
        obtain ⟨v1, hv1⟩ := hH.1.2.2.2 (k * 3 + 1) (by omega)
        obtain ⟨v2, hv2⟩ := hH.1.2.2.2 (k * 3 + 2) (by omega)
        have hf0 := hH.1.2.2.1 (k * 3)
        have hf1 := hH.1.2.2.1 (k * 3 + 1)
        have hf2 := hH.1.2.2.1 (k * 3 + 2)
        have hst := hH.store hkl none 0 (fun _ => h0) (.inl h0)
        rw [h0] at hst g2
        have H0 := (show Hid _ from h0)
        clear hH g4 g5 h0 bp bm
        go_wp2
        go_region_held3 (fun w' => w'.cell? ⟨b, off + k * 3, none⟩ = some (.int .i64 (D.adm k)) ∧ w'.cell? ⟨b, off + k * 3 + 2, none⟩ = some (.int .i64 (D.rol k))) (go_keep) (fail)
        go_wp2
        go_roundw
        case rel => exact ⟨k + 1, by omega, by go_num, hst.drew⟩
        case measure => simp [intOf]; omega
      | some x =>
        go_wp2_with (at_make; refine wpList_make_full _ rfl _ _ 70 rfl wo.heap.size 73 j0 (.agg #[.int .i64 0, .bool false]) 2 Try.underlying70 hj hy0 hy1 .i64 .i64 (D.pl k) (D.pl k) (D.pl k) rfl rfl rfl rfl bp bm (Nat.le_refl _) ?_; intro w2 hown hgrow)
        have HS : HalfP wo (D.pl k) (fun j => .int .i64 (D.lit k j)) (fun j => .bool (D.neg k j)) 0 w2 := ⟨own_start hown hgrow, fun i hi => by omega⟩
        clear hown hgrow bp bm hj hy0 hy1 hy2
        go_loopw [6] (fun i wr => ∃ j : Nat, j ≤ D.pl k ∧ i = .int .i64 j ∧ HalfP wo (D.pl k) (fun j => .int .i64 (D.lit k j)) (fun j => .bool (D.neg k j)) j wr) (fun i _ => D.pl k - (intOf i).toNat)
        case atStart => exact ⟨0, Nat.zero_le _, rfl, HS⟩
        case round =>
          obtain ⟨j, hj, rfl, hP⟩ := hrel
          clear HS
          have hwo := hH.1.2.1
          have c1 : wr.cell? ⟨b, off + k * 3 + 1, none⟩ = some (.slice (some x) (D.pl k) pc) := (hP.1.1.cell (by show b < _; omega)).trans g2
          by_cases hjl : j < D.pl k
          · rcases g5 with g5 | ⟨pb, po, e, hpb, hlits⟩
            · omega
            simp only [Option.some.injEq] at e
            subst e
            have hpbo : pb < wo.heap.size := by have := hH.1.1.size; omega
            have e1 : wr.cell? ⟨pb, po + j * 2, none⟩ = some (.int .i64 (D.lit k j)) := (hP.1.1.cell (by exact hpbo)).trans (hlits j hjl).1
            have e2 : wr.cell? ⟨pb, po + j * 2 + 1, none⟩ = some (.bool (D.neg k j)) := (hP.1.1.cell (by exact hpbo)).trans (hlits j hjl).2
            obtain ⟨v0, hv0⟩ := hP.1.2.2.2 (j * 2) (by omega)
            obtain ⟨v1, hv1⟩ := hP.1.2.2.2 (j * 2 + 1) (by omega)
            have hf0 := hP.1.2.2.1 (j * 2)
            have hf1 := hP.1.2.2.1 (j * 2 + 1)
            have hst := hP.store hjl
            have hn1 : ¬ wo.heap.size = b := by omega
            have hn2 : ¬ wo.heap.size = pb := by omega
            have hji : (j : Int) < (D.pl k : Int) := by omega
            have hj0 : (0 : Int) ≤ (j : Int) := by omega
            clear hlits hP hH g1 g2 g3 g4
            go_wp2
            go_region_held3 (fun w' => w'.cell? ⟨b, off + k * 3 + 1, none⟩ = some (.slice (some ⟨pb, po, none⟩) (D.pl k) pc) ∧ w'.cell? ⟨pb, po + j * 2, none⟩ = some (.int .i64 (D.lit k j)) ∧ w'.cell? ⟨pb, po + j * 2 + 1, none⟩ = some (.bool (D.neg k j))) (go_keep) (fail)
            go_wp2
            go_roundw
            case rel => exact ⟨j + 1, by omega, by go_num, hst.drew⟩
            case measure => simp [intOf]; omega
          · obtain hje : j = D.pl k := by omega
            have HE := (show Hid _ from hje)
            clear hje
            have d1 : wr.cell? ⟨b, off + k * 3, none⟩ = some (.int .i64 (D.adm k)) := (hP.1.1.cell (by show b < _; omega)).trans g1
            have d3 : wr.cell? ⟨b, off + k * 3 + 2, none⟩ = some (.int .i64 (D.rol k)) := (hP.1.1.cell (by show b < _; omega)).trans g3
            have hH' : HalfCA w D k wr := hH.later hP.1.1
            have hpre := hP.2
            rw [HE.out] at hpre
            have hst := hH'.store hkl (some ⟨wo.heap.size, 0, none⟩) (D.pl k) (by simp) (.inr ⟨wo.heap.size, rfl, hwo, hP.1.2.1, hpre⟩)
            obtain ⟨v0, hv0⟩ := hH'.1.2.2.2 (k * 3) (by omega)
            obtain ⟨v1, hv1⟩ := hH'.1.2.2.2 (k * 3 + 1) (by omega)
            obtain ⟨v2, hv2⟩ := hH'.1.2.2.2 (k * 3 + 2) (by omega)
            have hf0 := hH'.1.2.2.1 (k * 3)
            have hf1 := hH'.1.2.2.1 (k * 3 + 1)
            have hf2 := hH'.1.2.2.1 (k * 3 + 2)
            clear hH hH' g4 g5 hP hpre g1 g2 g3
            go_wp2
            go_region_held3 (fun w' => w'.cell? ⟨b, off + k * 3, none⟩ = some (.int .i64 (D.adm k)) ∧ w'.cell? ⟨b, off + k * 3 + 2, none⟩ = some (.int .i64 (D.rol k))) (go_keep) (fail)
            go_wp2
            go_roundw
            case rel => exact ⟨k + 1, by omega, by go_num, hst.drew⟩
            case measure => simp [intOf]; omega
    · obtain e : k = D.n := by omega
      have HE := (show Hid _ from e)
      clear e hc hpl
      go_wp2
      go_ret
      exact ⟨_, rfl, half_ca (HE.out ▸ hH), hH.1.1⟩

/-- RULES COPIED into new memory. -/
theorem toCA_any (a : Option Addr) (cap : Nat) (D : Rules) (w : World) (hn : a = none → D.n = 0 ∧ cap = 0) (hl : D.n ≤ 65536) (hpl : ∀ i, i < D.n → D.pl i ≤ 65536) (hr : CAat w.heap.size w a D) :
    Calls Try.prog 16 #[.slice a D.n cap] w fun e w' => ∃ a' c', e = .returned (.slice a' D.n c') ∧ D.n ≤ c' ∧ (a' = none → D.n = 0 ∧ c' = 0) ∧ CAat w'.heap.size w' a' D ∧ Below w.heap.size w w' := by
  cases a with
  | none =>
    obtain ⟨h0, rfl⟩ := hn rfl
    rw [h0]
    refine (toCA_nil w).mono ?_
    rintro e w' ⟨rfl, rfl⟩
    exact ⟨none, 0, rfl, Nat.le_refl _, fun _ => ⟨rfl, rfl⟩, .inl h0, Below.refl _ _⟩
  | some x =>
    rcases hr with h0 | ⟨b, off, e, hlt, hc⟩
    · rw [h0]
      refine (toCA_zero x cap w).mono ?_
      rintro e w' ⟨⟨a', rfl⟩, hb⟩
      exact ⟨a', 0, rfl, Nat.le_refl _, fun _ => ⟨rfl, rfl⟩, .inl h0, hb⟩
    · simp only [Option.some.injEq] at e
      subst e
      refine (toCA_some b off cap D w hl hpl hlt hc).mono ?_
      rintro e w' ⟨a', rfl, hp, hb⟩
      refine ⟨a', D.n, rfl, Nat.le_refl _, fun h => ?_, hp, hb⟩
      rcases hp with h0 | ⟨_, _, h1, _⟩
      · exact ⟨h0, h0⟩
      · rw [h] at h1; cases h1

end Go.Proofs.Qxb6605479a
