/-
  The clone and the conversion of a list of can-assign rules: contracts.
-/
import Derived.Test.Qxb6605479aClone
namespace Go.Proofs.Qxb6605479a
open Go.RowKit

theorem Try.info37 : (Try.prog.info? 37).map (fun i => (i.zero, i.size, i.bytes)) = some (some (.agg #[.int .i64 0, .slice none 0 0, .int .i64 0]), 3, 40) := by kernel_rfl
theorem Try.info72 : (Try.prog.info? 72).map (fun i => (i.zero, i.size, i.bytes)) = some (some (.agg #[.int .i64 0, .slice none 0 0, .int .i64 0]), 3, 40) := by kernel_rfl
theorem Try.info48 : (Try.prog.info? 48).map (fun i => (i.zero, i.size, i.bytes)) = some (some (.agg #[.int .i64 0, .bool false]), 2, 16) := by kernel_rfl
theorem Try.info73 : (Try.prog.info? 73).map (fun i => (i.zero, i.size, i.bytes)) = some (some (.agg #[.int .i64 0, .bool false]), 2, 16) := by kernel_rfl

theorem q22 (w : World) (a : Option Addr) (n c n' c' : Nat) : (binOp .eql 22 (.slice a n c) (.slice none n' c')).run Try.prog w = .ok (.bool a.isNone) w := Lib.run_eql_slice_nil w _ _ a n c n' c' Try.underlying22
theorem n35 (w : World) (a : Option Addr) (n c n' c' : Nat) : (binOp .neq 35 (.slice a n c) (.slice none n' c')).run Try.prog w = .ok (.bool (!a.isNone)) w := run_neq_slice_nil_any w _ _ a n c n' c' Try.underlying35

/-- One rule of the new list, its literals in a block of their own. -/
def OwnRule (w wr : World) (o : Nat) (adm rol : Int) (pl : Nat) (lit : Nat → Int) (neg : Nat → Bool) : Prop :=
  ∃ pa pc, wr.cell? ⟨w.heap.size, o, none⟩ = some (.int .i64 adm) ∧ wr.cell? ⟨w.heap.size, o + 1, none⟩ = some (.slice pa pl pc) ∧ wr.cell? ⟨w.heap.size, o + 2, none⟩ = some (.int .i64 rol) ∧ (pa = none → pl = 0) ∧
    (pl = 0 ∨ ∃ pb, pa = some ⟨pb, 0, none⟩ ∧ w.heap.size < pb ∧ pb < wr.heap.size ∧ ∀ j, j < pl → wr.cell? ⟨pb, j * 2, none⟩ = some (.int .i64 (lit j)) ∧ wr.cell? ⟨pb, j * 2 + 1, none⟩ = some (.bool (neg j)))

theorem OwnRule.later {w wr w' : World} {o : Nat} {adm rol : Int} {pl : Nat} {lit : Nat → Int} {neg : Nat → Bool} (h : OwnRule w wr o adm rol pl lit neg) (hb : Below wr.heap.size wr w') (hs : w.heap.size < wr.heap.size) : OwnRule w w' o adm rol pl lit neg := by
  obtain ⟨pa, pc, h1, h2, h3, h4, h5⟩ := h
  refine ⟨pa, pc, (hb.cell hs).trans h1, (hb.cell hs).trans h2, (hb.cell hs).trans h3, h4, ?_⟩
  rcases h5 with h5 | ⟨pb, e, h6, h7, h8⟩
  · exact .inl h5
  · exact .inr ⟨pb, e, h6, Nat.lt_of_lt_of_le h7 hb.size, fun j hj => ⟨(hb.cell h7).trans (h8 j hj).1, (hb.cell h7).trans (h8 j hj).2⟩⟩

theorem Own.later {w wr w' : World} {N : Nat} (h : Own w N wr) (hb : Below wr.heap.size wr w') : Own w N w' :=
  ⟨h.1.trans (hb.mono (Nat.le_of_lt h.2.1)), Nat.lt_of_lt_of_le h.2.1 hb.size, fun o => (hb.frozen (by exact h.2.1)).trans (h.2.2.1 o), fun o ho => by rw [hb.cell (by exact h.2.1)]; exact h.2.2.2 o ho⟩

/-- What the outer loop holds in its k-th round. -/
def HalfCA (w : World) (D : Rules) (k : Nat) (wr : World) : Prop :=
  Own w (D.n * 3) wr ∧ ∀ i, i < k → OwnRule w wr (i * 3) (D.adm i) (D.rol i) (D.pl i) (D.lit i) (D.neg i)

theorem HalfCA.later {w wr w' : World} {D : Rules} {k : Nat} (h : HalfCA w D k wr) (hb : Below wr.heap.size wr w') : HalfCA w D k w' :=
  ⟨h.1.later hb, fun i hi => (h.2 i hi).later hb h.1.2.1⟩

theorem HalfCA.drew {w wr : World} {D : Rules} {k : Nat} (h : HalfCA w D k wr) : HalfCA w D k wr.drew := ⟨h.1.drew, h.2⟩

theorem HalfCA.store {w wr : World} {D : Rules} {k : Nat} (h : HalfCA w D k wr) (hk : k < D.n) (pa : Option Addr) (pc : Nat) (hp : pa = none → D.pl k = 0)
    (hpre : D.pl k = 0 ∨ ∃ pb, pa = some ⟨pb, 0, none⟩ ∧ w.heap.size < pb ∧ pb < wr.heap.size ∧ ∀ j, j < D.pl k → wr.cell? ⟨pb, j * 2, none⟩ = some (.int .i64 (D.lit k j)) ∧ wr.cell? ⟨pb, j * 2 + 1, none⟩ = some (.bool (D.neg k j))) :
    HalfCA w D (k + 1) (((wr.setCell ⟨w.heap.size, k * 3, none⟩ (.int .i64 (D.adm k))).setCell ⟨w.heap.size, k * 3 + 1, none⟩ (.slice pa (D.pl k) pc)).setCell ⟨w.heap.size, k * 3 + 2, none⟩ (.int .i64 (D.rol k))) := by
  obtain ⟨h1, h2⟩ := h
  have o1 := h1.set (o := k * 3) (by omega) (.int .i64 (D.adm k))
  have o2 := o1.set (o := k * 3 + 1) (by omega) (.slice pa (D.pl k) pc)
  have o3 := o2.set (o := k * 3 + 2) (by omega) (.int .i64 (D.rol k))
  refine ⟨o3, fun i hi => ?_⟩
  have far : ∀ b o, w.heap.size < b → (((wr.setCell ⟨w.heap.size, k * 3, none⟩ (.int .i64 (D.adm k))).setCell ⟨w.heap.size, k * 3 + 1, none⟩ (.slice pa (D.pl k) pc)).setCell ⟨w.heap.size, k * 3 + 2, none⟩ (.int .i64 (D.rol k))).cell? ⟨b, o, none⟩ = wr.cell? ⟨b, o, none⟩ := fun b o hb => by
    rw [cell_far _ (by omega), cell_far _ (by omega), cell_far _ (by omega)]
  have near : ∀ o, (((wr.setCell ⟨w.heap.size, k * 3, none⟩ (.int .i64 (D.adm k))).setCell ⟨w.heap.size, k * 3 + 1, none⟩ (.slice pa (D.pl k) pc)).setCell ⟨w.heap.size, k * 3 + 2, none⟩ (.int .i64 (D.rol k))).cell? ⟨w.heap.size, o, none⟩ =
      if o = k * 3 + 2 then some (.int .i64 (D.rol k)) else if o = k * 3 + 1 then some (.slice pa (D.pl k) pc) else if o = k * 3 then some (.int .i64 (D.adm k)) else wr.cell? ⟨w.heap.size, o, none⟩ := fun o => by
    rw [cell_set _ (o2.2.2.2 _ (by omega)), cell_set _ (o1.2.2.2 _ (by omega)), cell_set _ (h1.2.2.2 _ (by omega))]
  by_cases e : i = k
  · subst e
    refine ⟨pa, pc, ?_, ?_, ?_, hp, ?_⟩
    · rw [near, if_neg (by omega), if_neg (by omega), if_pos rfl]
    · rw [near, if_neg (by omega), if_pos rfl]
    · rw [near, if_pos rfl]
    · rcases hpre with h | ⟨pb, e, h6, h7, h8⟩
      · exact .inl h
      · exact .inr ⟨pb, e, h6, by simpa using h7, fun j hj => by rw [far _ _ h6, far _ _ h6]; exact h8 j hj⟩
  · obtain ⟨pa', pc', g1, g2, g3, g4, g5⟩ := h2 i (by omega)
    refine ⟨pa', pc', ?_, ?_, ?_, g4, ?_⟩
    · rw [near, if_neg (by omega), if_neg (by omega), if_neg (by omega)]; exact g1
    · rw [near, if_neg (by omega), if_neg (by omega), if_neg (by omega)]; exact g2
    · rw [near, if_neg (by omega), if_neg (by omega), if_neg (by omega)]; exact g3
    · rcases g5 with h | ⟨pb, e, h6, h7, h8⟩
      · exact .inl h
      · exact .inr ⟨pb, e, h6, by simpa using h7, fun j hj => by rw [far _ _ h6, far _ _ h6]; exact h8 j hj⟩

theorem half_ca {w wr : World} {D : Rules} (h : HalfCA w D D.n wr) : CAat wr.heap.size wr (some ⟨w.heap.size, 0, none⟩) D := by
  refine .inr ⟨w.heap.size, 0, rfl, h.1.2.1, fun i hi => ?_⟩
  rw [Nat.zero_add]
  obtain ⟨pa, pc, g1, g2, g3, g4, g5⟩ := h.2 i hi
  refine ⟨pa, pc, g1, g2, g3, g4, ?_⟩
  rcases g5 with h | ⟨pb, e, h6, h7, h8⟩
  · exact .inl h
  · exact .inr ⟨pb, 0, e, h7, fun j hj => by simpa using h8 j hj⟩

set_option maxHeartbeats 400000 in
theorem cloneCA_zero (x : Addr) (cap : Nat) (w : World) :
    Calls Try.prog 12 #[.slice (some x) 0 cap] w fun e w' => (∃ a', e = .returned (.slice a' 0 0)) ∧ Below w.heap.size w w' := by
  have hq := q22
  obtain ⟨i0, hi, hz0, hz1, hz2⟩ := info_parts Try.info37
  go_enter Try.func12, Try.ntmps12
  go_wp2_with (at_make; refine wpList_make_full _ rfl _ _ 22 rfl w.heap.size 37 i0 (.agg #[.int .i64 0, .slice none 0 0, .int .i64 0]) 3 Try.underlying22 hi hz0 hz1 .i64 .i64 0 0 0 rfl rfl rfl rfl (by omega) (by unfold maxLen; omega) (Nat.le_refl _) ?_; intro w1 hown hgrow)
  refine wp_loop_rounds 1 ?_
  rw [rounds_succ]
  go_wp2
  go_ret
  exact ⟨⟨_, rfl⟩, (Below.refl _ _).grown hgrow (Nat.le_refl _) (by simp)⟩

set_option maxHeartbeats 400000 in
theorem cloneCA_nil (w : World) :
    Calls Try.prog 12 #[.slice none 0 0] w fun e w' => e = .returned (.slice none 0 0) ∧ w = w' := by
  have hq := q22
  go_enter Try.func12, Try.ntmps12
  go_wp2
  go_ret
  exact ⟨rfl, rfl⟩

set_option maxHeartbeats 2000000 in
theorem cloneCA_some (b off cap : Nat) (D : Rules) (w : World) (hl : D.n ≤ 65536) (hpl : ∀ i, i < D.n → D.pl i ≤ 65536) (hlt : b < w.heap.size)
    (hc : ∀ i, i < D.n → RuleAt w.heap.size w b (off + i * 3) (D.adm i) (D.rol i) (D.pl i) (D.lit i) (D.neg i)) :
    Calls Try.prog 12 #[.slice (some ⟨b, off, none⟩) D.n cap] w fun e w' => ∃ a', e = .returned (.slice a' D.n D.n) ∧ CAat w'.heap.size w' a' D ∧ Below w.heap.size w w' := by
  have hq := q22
  have hq' := n35
  obtain ⟨i0, hi, hz0, hz1, hz2⟩ := info_parts Try.info37
  have hb8 : i0.bytes * D.n ≤ 281474976710656 := by rw [hz2]; omega
  have hml : D.n ≤ maxLen := by unfold maxLen; omega
  obtain ⟨j0, hj, hy0, hy1, hy2⟩ := info_parts Try.info48
  have hb16 : ∀ p, p ≤ 65536 → j0.bytes * p ≤ 281474976710656 := fun p hp => by rw [hy2]; omega
  have hbm : ∀ p, p ≤ 65536 → p ≤ maxLen := fun p hp => by unfold maxLen; omega
  have HB : Hid (∀ p, p ≤ 65536 → j0.bytes * p ≤ 281474976710656 ∧ p ≤ maxLen) := fun p hp => ⟨hb16 p hp, hbm p hp⟩
  clear hb16 hbm
  go_enter Try.func12, Try.ntmps12
  go_wp2_with (at_make; refine wpList_make_full _ rfl _ _ 22 rfl w.heap.size 37 i0 (.agg #[.int .i64 0, .slice none 0 0, .int .i64 0]) 3 Try.underlying22 hi hz0 hz1 .i64 .i64 D.n D.n D.n rfl rfl rfl rfl hb8 hml (Nat.le_refl _) ?_; intro w1 hown hgrow)
  have HS : HalfCA w D 0 w1 := ⟨own_start hown hgrow, fun i hi => by omega⟩
  clear hown hgrow hb8 hml hi hz0 hz1 hz2
  go_loopw [4] (fun i wr => ∃ k : Nat, k ≤ D.n ∧ i = .int .i64 k ∧ HalfCA w D k wr) (fun i _ => D.n - (intOf i).toNat)
  case atStart => exact ⟨0, Nat.zero_le _, rfl, HS⟩
  case round =>
    obtain ⟨k, hk, rfl, hH⟩ := hrel
    clear HS
    obtain ⟨wo, rfl⟩ : ∃ wo : World, wo = wr := ⟨_, rfl⟩
    by_cases hkl : k < D.n
    · obtain ⟨pa, pc, g1, g2, g3, g4, g5⟩ := (hc k hkl).below hlt hH.1.1 (Nat.le_refl _)
      obtain ⟨bp, bm⟩ := HB.out (D.pl k) (hpl k hkl)
      have hplk := hpl k hkl
      have hki : (k : Int) < (D.n : Int) := by omega
      have hk0 : (0 : Int) ≤ (k : Int) := by omega
      have hnb : ¬ w.heap.size = b := by omega
      clear hc hpl HB
      cases pa with
      | none =>
        have h0 : D.pl k = 0 := g4 rfl
        obtain ⟨v0, hv0⟩ := hH.1.2.2.2 (k * 3) (by omega)
        obtain ⟨v1, hv1⟩ := hH.1.2.2.2 (k * 3 + 1) (by omega)
        obtain ⟨v2, hv2⟩ := hH.1.2.2.2 (k * 3 + 2) (by omega)
        have hf0 := hH.1.2.2.1 (k * 3)
        have hf1 := hH.1.2.2.1 (k * 3 + 1)
        have hf2 := hH.1.2.2.1 (k * 3 + 2)
        have hst := hH.store hkl none 0 (fun _ => h0) (.inl h0)
        rw [h0] at hst g2
        have H0 := (show Hid _ from h0)
        clear hH g4 g5 h0 bp bm
        go_wp2
        go_region_held3 (fun w' => w'.cell? ⟨b, off + k * 3, none⟩ = some (.int .i64 (D.adm k)) ∧ w'.cell? ⟨b, off + k * 3 + 2, none⟩ = some (.int .i64 (D.rol k))) (go_keep) (fail)
        go_wp2
        go_roundw
        case rel => exact ⟨k + 1, by omega, by go_num, hst.drew⟩
        case measure => simp [intOf]; omega
      | some x =>
        go_wp2_with (at_make; refine wpList_make_full _ rfl _ _ 35 rfl wo.heap.size 48 j0 (.agg #[.int .i64 0, .bool false]) 2 Try.underlying35 hj hy0 hy1 .i64 .i64 (D.pl k) (D.pl k) (D.pl k) rfl rfl rfl rfl bp bm (Nat.le_refl _) ?_; intro w2 hown hgrow)
        have HS : HalfP wo (D.pl k) (fun j => .int .i64 (D.lit k j)) (fun j => .bool (D.neg k j)) 0 w2 := ⟨own_start hown hgrow, fun i hi => by omega⟩
        clear hown hgrow bp bm hj hy0 hy1 hy2
        go_loopw [6] (fun i wr => ∃ j : Nat, j ≤ D.pl k ∧ i = .int .i64 j ∧ HalfP wo (D.pl k) (fun j => .int .i64 (D.lit k j)) (fun j => .bool (D.neg k j)) j wr) (fun i _ => D.pl k - (intOf i).toNat)
        case atStart => exact ⟨0, Nat.zero_le _, rfl, HS⟩
        case round =>
          obtain ⟨j, hj, rfl, hP⟩ := hrel
          clear HS
          have hwo := hH.1.2.1
          have c1 : wr.cell? ⟨b, off + k * 3 + 1, none⟩ = some (.slice (some x) (D.pl k) pc) := (hP.1.1.cell (by show b < _; omega)).trans g2
          by_cases hjl : j < D.pl k
          · rcases g5 with g5 | ⟨pb, po, e, hpb, hlits⟩
            · omega
            simp only [Option.some.injEq] at e
            subst e
            have hpbo : pb < wo.heap.size := by have := hH.1.1.size; omega
            have e1 : wr.cell? ⟨pb, po + j * 2, none⟩ = some (.int .i64 (D.lit k j)) := (hP.1.1.cell (by exact hpbo)).trans (hlits j hjl).1
            have e2 : wr.cell? ⟨pb, po + j * 2 + 1, none⟩ = some (.bool (D.neg k j)) := (hP.1.1.cell (by exact hpbo)).trans (hlits j hjl).2
            obtain ⟨v0, hv0⟩ := hP.1.2.2.2 (j * 2) (by omega)
            obtain ⟨v1, hv1⟩ := hP.1.2.2.2 (j * 2 + 1) (by omega)
            have hf0 := hP.1.2.2.1 (j * 2)
            have hf1 := hP.1.2.2.1 (j * 2 + 1)
            have hst := hP.store hjl
            have hn1 : ¬ wo.heap.size = b := by omega
            have hn2 : ¬ wo.heap.size = pb := by omega
            have hji : (j : Int) < (D.pl k : Int) := by omega
            have hj0 : (0 : Int) ≤ (j : Int) := by omega
            clear hlits hP hH g1 g2 g3 g4
            go_wp2
            go_roundw
            case rel => exact ⟨j + 1, by omega, by go_num, hst⟩
            case measure => simp [intOf]; omega
          · obtain hje : j = D.pl k := by omega
            have HE := (show Hid _ from hje)
            clear hje
            have d1 : wr.cell? ⟨b, off + k * 3, none⟩ = some (.int .i64 (D.adm k)) := (hP.1.1.cell (by show b < _; omega)).trans g1
            have d3 : wr.cell? ⟨b, off + k * 3 + 2, none⟩ = some (.int .i64 (D.rol k)) := (hP.1.1.cell (by show b < _; omega)).trans g3
            have hH' : HalfCA w D k wr := hH.later hP.1.1
            have hpre := hP.2
            rw [HE.out] at hpre
            have hst := hH'.store hkl (some ⟨wo.heap.size, 0, none⟩) (D.pl k) (by simp) (.inr ⟨wo.heap.size, rfl, hwo, hP.1.2.1, hpre⟩)
            obtain ⟨v0, hv0⟩ := hH'.1.2.2.2 (k * 3) (by omega)
            obtain ⟨v1, hv1⟩ := hH'.1.2.2.2 (k * 3 + 1) (by omega)
            obtain ⟨v2, hv2⟩ := hH'.1.2.2.2 (k * 3 + 2) (by omega)
            have hf0 := hH'.1.2.2.1 (k * 3)
            have hf1 := hH'.1.2.2.1 (k * 3 + 1)
            have hf2 := hH'.1.2.2.1 (k * 3 + 2)
            clear hH hH' g4 g5 hP hpre g1 g2 g3
            go_wp2
            go_region_held3 (fun w' => w'.cell? ⟨b, off + k * 3, none⟩ = some (.int .i64 (D.adm k)) ∧ w'.cell? ⟨b, off + k * 3 + 2, none⟩ = some (.int .i64 (D.rol k))) (go_keep) (fail)
            go_wp2
            go_roundw
            case rel => exact ⟨k + 1, by omega, by go_num, hst.drew⟩
            case measure => simp [intOf]; omega
    · obtain e : k = D.n := by omega
      have HE := (show Hid _ from e)
      clear e hc hpl
      go_wp2
      go_ret
      exact ⟨_, rfl, half_ca (HE.out ▸ hH), hH.1.1⟩

/-- RULES COPIED into new memory. -/
theorem cloneCA_any (a : Option Addr) (cap : Nat) (D : Rules) (w : World) (hn : a = none → D.n = 0 ∧ cap = 0) (hl : D.n ≤ 65536) (hpl : ∀ i, i < D.n → D.pl i ≤ 65536) (hr : CAat w.heap.size w a D) :
    Calls Try.prog 12 #[.slice a D.n cap] w fun e w' => ∃ a' c', e = .returned (.slice a' D.n c') ∧ D.n ≤ c' ∧ (a' = none → D.n = 0 ∧ c' = 0) ∧ CAat w'.heap.size w' a' D ∧ Below w.heap.size w w' := by
  cases a with
  | none =>
    obtain ⟨h0, rfl⟩ := hn rfl
    rw [h0]
    refine (cloneCA_nil w).mono ?_
    rintro e w' ⟨rfl, rfl⟩
    exact ⟨none, 0, rfl, Nat.le_refl _, fun _ => ⟨rfl, rfl⟩, .inl h0, Below.refl _ _⟩
  | some x =>
    rcases hr with h0 | ⟨b, off, e, hlt, hc⟩
    · rw [h0]
      refine (cloneCA_zero x cap w).mono ?_
      rintro e w' ⟨⟨a', rfl⟩, hb⟩
      exact ⟨a', 0, rfl, Nat.le_refl _, fun _ => ⟨rfl, rfl⟩, .inl h0, hb⟩
    · simp only [Option.some.injEq] at e
      subst e
      refine (cloneCA_some b off cap D w hl hpl hlt hc).mono ?_
      rintro e w' ⟨a', rfl, hp, hb⟩
      refine ⟨a', D.n, rfl, Nat.le_refl _, fun h => ?_, hp, hb⟩
      rcases hp with h0 | ⟨_, _, h1, _⟩
      · exact ⟨h0, h0⟩
      · rw [h] at h1; cases h1

end Go.Proofs.Qxb6605479a
