/-
  The reversed rule lists: contracts.
-/
import Derived.Test.Qxb6605479aCloneCA
import Derived.Test.Qxb6605479aPlain
namespace Go.Proofs.Qxb6605479a
open Go.RowKit

theorem hid' {p : Prop} (h : p) : Hid p := h

/-- The rules in reverse order. -/
def Rules.rev (D : Rules) : Rules := ⟨D.n, fun i => D.adm (D.n - 1 - i), fun i => D.rol (D.n - 1 - i), fun i => D.pl (D.n - 1 - i), fun i => D.lit (D.n - 1 - i), fun i => D.neg (D.n - 1 - i)⟩
def revF (n : Nat) (f : Nat → Int) (i : Nat) : Int := f (n - 1 - i)

/-- What the loop holds in its k-th round. -/
def HalfR (w : World) (D : Rules) (k : Nat) (wr : World) : Prop :=
  Own w (D.n * 3) wr ∧ ∀ i, i < k → ∃ pa pc, wr.cell? ⟨w.heap.size, i * 3, none⟩ = some (.int .i64 (D.adm i)) ∧ wr.cell? ⟨w.heap.size, i * 3 + 1, none⟩ = some (.slice pa (D.pl i) pc) ∧ wr.cell? ⟨w.heap.size, i * 3 + 2, none⟩ = some (.int .i64 (D.rol i)) ∧
    (pa = none → D.pl i = 0) ∧ PreAt w.heap.size w pa (D.pl i) (D.lit i) (D.neg i)

theorem HalfR.store {w wr : World} {D : Rules} {k : Nat} (h : HalfR w D k wr) (hk : k < D.n) (pa : Option Addr) (pc : Nat) (hp : pa = none → D.pl k = 0) (hpre : PreAt w.heap.size w pa (D.pl k) (D.lit k) (D.neg k)) :
    HalfR w D (k + 1) (((wr.setCell ⟨w.heap.size, k * 3, none⟩ (.int .i64 (D.adm k))).setCell ⟨w.heap.size, k * 3 + 1, none⟩ (.slice pa (D.pl k) pc)).setCell ⟨w.heap.size, k * 3 + 2, none⟩ (.int .i64 (D.rol k))) := by
  obtain ⟨h1, h2⟩ := h
  have o1 := h1.set (o := k * 3) (by omega) (.int .i64 (D.adm k))
  have o2 := o1.set (o := k * 3 + 1) (by omega) (.slice pa (D.pl k) pc)
  have o3 := o2.set (o := k * 3 + 2) (by omega) (.int .i64 (D.rol k))
  refine ⟨o3, fun i hi => ?_⟩
  have near : ∀ o, (((wr.setCell ⟨w.heap.size, k * 3, none⟩ (.int .i64 (D.adm k))).setCell ⟨w.heap.size, k * 3 + 1, none⟩ (.slice pa (D.pl k) pc)).setCell ⟨w.heap.size, k * 3 + 2, none⟩ (.int .i64 (D.rol k))).cell? ⟨w.heap.size, o, none⟩ =
      if o = k * 3 + 2 then some (.int .i64 (D.rol k)) else if o = k * 3 + 1 then some (.slice pa (D.pl k) pc) else if o = k * 3 then some (.int .i64 (D.adm k)) else wr.cell? ⟨w.heap.size, o, none⟩ := fun o => by
    rw [cell_set _ (o2.2.2.2 _ (by omega)), cell_set _ (o1.2.2.2 _ (by omega)), cell_set _ (h1.2.2.2 _ (by omega))]
  by_cases e : i = k
  · subst e
    refine ⟨pa, pc, ?_, ?_, ?_, hp, hpre⟩
    · rw [near, if_neg (by omega), if_neg (by omega), if_pos rfl]
    · rw [near, if_neg (by omega), if_pos rfl]
    · rw [near, if_pos rfl]
  · obtain ⟨pa', pc', g1, g2, g3, g4, g5⟩ := h2 i (by omega)
    refine ⟨pa', pc', ?_, ?_, ?_, g4, g5⟩
    · rw [near, if_neg (by omega), if_neg (by omega), if_neg (by omega)]; exact g1
    · rw [near, if_neg (by omega), if_neg (by omega), if_neg (by omega)]; exact g2
    · rw [near, if_neg (by omega), if_neg (by omega), if_neg (by omega)]; exact g3

theorem half_r {w wr : World} {D : Rules} (h : HalfR w D D.n wr) : CAat wr.heap.size wr (some ⟨w.heap.size, 0, none⟩) D := by
  refine .inr ⟨w.heap.size, 0, rfl, h.1.2.1, fun i hi => ?_⟩
  rw [Nat.zero_add]
  obtain ⟨pa, pc, g1, g2, g3, g4, g5⟩ := h.2 i hi
  exact ⟨pa, pc, g1, g2, g3, g4, g5.below h.1.1 h.1.1.size⟩

set_option maxHeartbeats 400000 in
theorem revCA_zero (x : Addr) (cap : Nat) (w : World) :
    Calls Try.prog 19 #[.slice (some x) 0 cap] w fun e w' => (∃ a', e = .returned (.slice a' 0 0)) ∧ Below w.heap.size w w' := by
  have hq := q22
  obtain ⟨i0, hi, hz0, hz1, hz2⟩ := info_parts Try.info37
  go_enter Try.func19, Try.ntmps19
  go_wp2_with (at_make; refine wpList_make_full _ rfl _ _ 22 rfl w.heap.size 37 i0 (.agg #[.int .i64 0, .slice none 0 0, .int .i64 0]) 3 Try.underlying22 hi hz0 hz1 .i64 .i64 0 0 0 rfl rfl rfl rfl (by omega) (by unfold maxLen; omega) (Nat.le_refl _) ?_; intro w1 hown hgrow)
  refine wp_loop_rounds 1 ?_
  rw [rounds_succ]
  go_wp2
  go_ret
  exact ⟨⟨_, rfl⟩, (Below.refl _ _).grown hgrow (Nat.le_refl _) (by simp)⟩

set_option maxHeartbeats 400000 in
theorem revCA_nil (w : World) :
    Calls Try.prog 19 #[.slice none 0 0] w fun e w' => e = .returned (.slice none 0 0) ∧ w = w' := by
  have hq := q22
  go_enter Try.func19, Try.ntmps19
  go_wp2
  go_ret
  exact ⟨rfl, rfl⟩

set_option maxHeartbeats 400000 in
theorem revCA_some (b off n cap : Nat) (D : Rules) (w : World) (hnn : D.n = n) (hl : n ≤ 65536) (hlt : b < w.heap.size)
    (hc : ∀ i, i < n → RuleAt w.heap.size w b (off + (n - 1 - i) * 3) (D.adm i) (D.rol i) (D.pl i) (D.lit i) (D.neg i)) :
    Calls Try.prog 19 #[.slice (some ⟨b, off, none⟩) n cap] w fun e w' => ∃ a', e = .returned (.slice a' n n) ∧ CAat w'.heap.size w' a' D ∧ Below w.heap.size w w' := by
  have hq := q22
  obtain ⟨i0, hi, hz0, hz1, hz2⟩ := info_parts Try.info37
  have hb8 : i0.bytes * n ≤ 281474976710656 := by rw [hz2]; omega
  have hml : n ≤ maxLen := by unfold maxLen; omega
  have HN := hid' hnn
  clear hnn
  go_enter Try.func19, Try.ntmps19
  go_wp2_with (at_make; refine wpList_make_full _ rfl _ _ 22 rfl w.heap.size 37 i0 (.agg #[.int .i64 0, .slice none 0 0, .int .i64 0]) 3 Try.underlying22 hi hz0 hz1 .i64 .i64 n n n rfl rfl rfl rfl hb8 hml (Nat.le_refl _) ?_; intro w1 hown hgrow)
  have HS : HalfR w D 0 w1 := ⟨by rw [HN.out]; exact own_start hown hgrow, fun i hi => by omega⟩
  clear hown hgrow hb8 hml hi hz0 hz1 hz2
  go_loopw [4] (fun i wr => ∃ k : Nat, k ≤ n ∧ i = .int .i64 k ∧ HalfR w D k wr) (fun i _ => n - (intOf i).toNat)
  case atStart => exact ⟨0, Nat.zero_le _, rfl, HS⟩
  case round =>
    obtain ⟨k, hk, rfl, hH⟩ := hrel
    clear HS
    by_cases hkl : k < n
    · obtain ⟨s, hs⟩ : ∃ s, s = n - 1 - k := ⟨_, rfl⟩
      have hcx := hc k hkl
      rw [← hs] at hcx
      obtain rfl : n = s + 1 + k := by omega
      clear hs
      have hn' := HN.out
      obtain ⟨pa, pc, g1, g2, g3, g4, g5⟩ := hcx
      have hst := hH.store (by omega) pa pc g4 g5
      have d1 := (hH.1.1.cell (by exact hlt)).trans g1
      have d2 := (hH.1.1.cell (by exact hlt)).trans g2
      have d3 := (hH.1.1.cell (by exact hlt)).trans g3
      obtain ⟨v0, hv0⟩ := hH.1.2.2.2 (k * 3) (by omega)
      obtain ⟨v1, hv1⟩ := hH.1.2.2.2 (k * 3 + 1) (by omega)
      obtain ⟨v2, hv2⟩ := hH.1.2.2.2 (k * 3 + 2) (by omega)
      have hf0 := hH.1.2.2.1 (k * 3)
      have hf1 := hH.1.2.2.1 (k * 3 + 1)
      have hf2 := hH.1.2.2.1 (k * 3 + 2)
      clear hH hc g1 g2 g3 g4 g5 hn'
      go_wp2
      go_roundw
      case rel => exact ⟨k + 1, by omega, by go_num, hst⟩
      case measure => simp [intOf]; omega
    · obtain e : k = n := by omega
      have HE := hid' e
      clear e hc
      go_wp2
      go_ret
      exact ⟨_, rfl, half_r (by rw [HN.out, ← HE.out]; exact hH), hH.1.1⟩

/-- REVERSED RULES in new memory. -/
theorem revCA_any (a : Option Addr) (cap : Nat) (D : Rules) (w : World) (hn : a = none → D.n = 0 ∧ cap = 0) (hl : D.n ≤ 65536) (hr : CAat w.heap.size w a D) :
    Calls Try.prog 19 #[.slice a D.n cap] w fun e w' => ∃ a' c', e = .returned (.slice a' D.n c') ∧ D.n ≤ c' ∧ (a' = none → D.n = 0 ∧ c' = 0) ∧ CAat w'.heap.size w' a' D.rev ∧ Below w.heap.size w w' := by
  cases a with
  | none =>
    obtain ⟨h0, rfl⟩ := hn rfl
    rw [h0]
    refine (revCA_nil w).mono ?_
    rintro e w' ⟨rfl, rfl⟩
    exact ⟨none, 0, rfl, Nat.le_refl _, fun _ => ⟨rfl, rfl⟩, .inl h0, Below.refl _ _⟩
  | some x =>
    rcases hr with h0 | ⟨b, off, e, hlt, hc⟩
    · rw [h0]
      refine (revCA_zero x cap w).mono ?_
      rintro e w' ⟨⟨a', rfl⟩, hb⟩
      exact ⟨a', 0, rfl, Nat.le_refl _, fun _ => ⟨rfl, rfl⟩, .inl h0, hb⟩
    · simp only [Option.some.injEq] at e
      subst e
      refine (revCA_some b off D.n cap D.rev w rfl hl hlt (fun i hi => hc (D.n - 1 - i) (by omega))).mono ?_
      rintro e w' ⟨a', rfl, hp, hb⟩
      refine ⟨a', D.n, rfl, Nat.le_refl _, fun h => ?_, hp, hb⟩
      rcases hp with h0 | ⟨_, _, h1, _⟩
      · exact ⟨h0, h0⟩
      · rw [h] at h1; cases h1

/-! ### pairs -/
set_option maxHeartbeats 400000 in
theorem revCR_zero (x : Addr) (cap : Nat) (w : World) :
    Calls Try.prog 29 #[.slice (some x) 0 cap] w fun e w' => (∃ a', e = .returned (.slice a' 0 0)) ∧ Below w.heap.size w w' := by
  have hq := q38
  obtain ⟨i0, hi, hz0, hz1, hz2⟩ := info_parts Try.info50
  go_enter Try.func29, Try.ntmps29
  go_wp2_with (at_make; refine wpList_make_full _ rfl _ _ 38 rfl w.heap.size 50 i0 (.agg #[.int .i64 0, .int .i64 0]) 2 Try.underlying38 hi hz0 hz1 .i64 .i64 0 0 0 rfl rfl rfl rfl (by omega) (by unfold maxLen; omega) (Nat.le_refl _) ?_; intro w1 hown hgrow)
  refine wp_loop_rounds 1 ?_
  rw [rounds_succ]
  go_wp2
  go_ret
  exact ⟨⟨_, rfl⟩, (Below.refl _ _).grown hgrow (Nat.le_refl _) (by simp)⟩

set_option maxHeartbeats 400000 in
theorem revCR_nil (w : World) :
    Calls Try.prog 29 #[.slice none 0 0] w fun e w' => e = .returned (.slice none 0 0) ∧ w = w' := by
  have hq := q38
  go_enter Try.func29, Try.ntmps29
  go_wp2
  go_ret
  exact ⟨rfl, rfl⟩

set_option maxHeartbeats 400000 in
theorem revCR_some (b off n cap : Nat) (f g : Nat → Int) (w : World) (hl : n ≤ 65536) (hlt : b < w.heap.size)
    (hc : ∀ i, i < n → w.cell? ⟨b, off + (n - 1 - i) * 2, none⟩ = some (.int .i64 (f i)) ∧ w.cell? ⟨b, off + (n - 1 - i) * 2 + 1, none⟩ = some (.int .i64 (g i))) :
    Calls Try.prog 29 #[.slice (some ⟨b, off, none⟩) n cap] w fun e w' => ∃ a', e = .returned (.slice a' n n) ∧ PairsAt w'.heap.size w' a' n f g ∧ Below w.heap.size w w' := by
  have hq := q38
  obtain ⟨i0, hi, hz0, hz1, hz2⟩ := info_parts Try.info50
  have hb8 : i0.bytes * n ≤ 281474976710656 := by rw [hz2]; omega
  have hml : n ≤ maxLen := by unfold maxLen; omega
  go_enter Try.func29, Try.ntmps29
  go_wp2_with (at_make; refine wpList_make_full _ rfl _ _ 38 rfl w.heap.size 50 i0 (.agg #[.int .i64 0, .int .i64 0]) 2 Try.underlying38 hi hz0 hz1 .i64 .i64 n n n rfl rfl rfl rfl hb8 hml (Nat.le_refl _) ?_; intro w1 hown hgrow)
  have HS : HalfP w n (fun i => .int .i64 (f i)) (fun i => .int .i64 (g i)) 0 w1 := ⟨own_start hown hgrow, fun i hi => by omega⟩
  clear hown hgrow hb8 hml hi hz0 hz1 hz2
  go_loopw [4] (fun i wr => ∃ k : Nat, k ≤ n ∧ i = .int .i64 k ∧ HalfP w n (fun i => .int .i64 (f i)) (fun i => .int .i64 (g i)) k wr) (fun i _ => n - (intOf i).toNat)
  case atStart => exact ⟨0, Nat.zero_le _, rfl, HS⟩
  case round =>
    obtain ⟨k, hk, rfl, hH⟩ := hrel
    clear HS
    by_cases hkl : k < n
    · obtain ⟨s, hs⟩ : ∃ s, s = n - 1 - k := ⟨_, rfl⟩
      have hcx := hc k hkl
      rw [← hs] at hcx
      obtain rfl : n = s + 1 + k := by omega
      clear hs
      have hst := hH.store (by omega)
      have d1 := (hH.1.1.cell (by exact hlt)).trans hcx.1
      have d2 := (hH.1.1.cell (by exact hlt)).trans hcx.2
      obtain ⟨v0, hv0⟩ := hH.1.2.2.2 (k * 2) (by omega)
      obtain ⟨v1, hv1⟩ := hH.1.2.2.2 (k * 2 + 1) (by omega)
      have hf0 := hH.1.2.2.1 (k * 2)
      have hf1 := hH.1.2.2.1 (k * 2 + 1)
      clear hH hc hcx
      go_wp2
      go_roundw
      case rel => exact ⟨k + 1, by omega, by go_num, hst⟩
      case measure => simp [intOf]; omega
    · obtain rfl : k = n := by omega
      clear hc
      go_wp2
      go_ret
      exact ⟨_, rfl, half_pairs hH, hH.1.1⟩

/-- REVERSED PAIRS in new memory. -/
theorem revCR_any (a : Option Addr) (n cap : Nat) (f g : Nat → Int) (w : World) (hn : a = none → n = 0 ∧ cap = 0) (hl : n ≤ 65536) (hr : PairsAt w.heap.size w a n f g) :
    Calls Try.prog 29 #[.slice a n cap] w fun e w' => ∃ a' c', e = .returned (.slice a' n c') ∧ n ≤ c' ∧ (a' = none → n = 0 ∧ c' = 0) ∧ PairsAt w'.heap.size w' a' n (revF n f) (revF n g) ∧ Below w.heap.size w w' := by
  cases a with
  | none =>
    obtain ⟨rfl, rfl⟩ := hn rfl
    refine (revCR_nil w).mono ?_
    rintro e w' ⟨rfl, rfl⟩
    exact ⟨none, 0, rfl, Nat.le_refl _, fun _ => ⟨rfl, rfl⟩, .inl rfl, Below.refl _ _⟩
  | some x =>
    rcases hr with h0 | ⟨b, off, e, hlt, hc⟩
    · subst h0
      refine (revCR_zero x cap w).mono ?_
      rintro e w' ⟨⟨a', rfl⟩, hb⟩
      exact ⟨a', 0, rfl, Nat.le_refl _, fun _ => ⟨rfl, rfl⟩, .inl rfl, hb⟩
    · simp only [Option.some.injEq] at e
      subst e
      refine (revCR_some b off n cap (revF n f) (revF n g) w hl hlt (fun i hi => hc (n - 1 - i) (by omega))).mono ?_
      rintro e w' ⟨a', rfl, hp, hb⟩
      refine ⟨a', n, rfl, Nat.le_refl _, fun h => ?_, hp, hb⟩
      rcases hp with h0 | ⟨_, _, h1, _⟩
      · exact ⟨h0, h0⟩
      · rw [h] at h1; cases h1

/-! ### the plain law -/
theorem closed_rev {D : Rules} {l : Nat} {f g : Nat → Int} {s : Nat → Prop} (h : Closed D l f g s) : Closed D.rev l (revF l f) (revF l g) s := by
  refine ⟨fun i hi => ?_, fun i hi => ?_⟩
  · have hi' : i < D.n := hi
    exact h.1 (D.n - 1 - i) (by omega)
  · exact h.2 (l - 1 - i) (by omega)

theorem rev_closed {D : Rules} {l : Nat} {f g : Nat → Int} {s : Nat → Prop} (h : Closed D.rev l (revF l f) (revF l g) s) : Closed D l f g s := by
  refine ⟨fun i hi => ?_, fun i hi => ?_⟩
  · have := h.1 (D.n - 1 - i) (by show _ < D.n; omega)
    have e : D.n - 1 - (D.n - 1 - i) = i := by omega
    simp only [RuleCl, Rules.rev, e] at this
    exact this
  · have := h.2 (l - 1 - i) (by omega)
    have e : l - 1 - (l - 1 - i) = i := by omega
    simp only [PairCl, revF, e] at this
    exact this

theorem least_rev {D : Rules} {l : Nat} {f g : Nat → Int} {goal : Nat} {m : Nat → Bool} (h : Least D.rev l (revF l f) (revF l g) goal m) : Least D l f g goal m :=
  ⟨h.1, rev_closed h.2.1, fun s hs hc x hx => h.2.2 s hs (closed_rev hc) x hx⟩

end Go.Proofs.Qxb6605479a
