/-
  The walk of FnBloomReceiveThenTickFollowsBoth.
-/
import Derived.Test.Qxb6605454aCmp
namespace Go.Proofs.Qxb6605454a
open Go.RowKit

/-- The clone of a slice that is not empty. -/
theorem clone_pos (a : Option Addr) (len cap : Nat) (f : Nat → Int) (w : World) (hn : a = none → len = 0 ∧ cap = 0) (hr : RowAt w.heap.size w a len f) (hl : len ≤ 65536) (hp : 0 < len) :
    Calls Try.prog 7 #[.slice a len cap] w fun e w' => ∃ b off, e = .returned (.slice (some ⟨b, off, none⟩) len len) ∧ b < w'.heap.size ∧ (∀ i, i < len → w'.cell? ⟨b, off + i, none⟩ = some (.int .u64 (f i))) ∧ Below w.heap.size w w' := by
  refine (clone_any a len cap f w hn hr hl).mono ?_
  rintro e w' ⟨a', rfl, hr', hb⟩
  rcases hr' with h | ⟨b, off, rfl, hlt, hc⟩
  · omega
  · exact ⟨b, off, rfl, hlt, hc, hb⟩

/-- Early ways out. -/
theorem tick_early (a0 : Option Addr) (l0 c0 : Nat) (a1 : Option Addr) (l1 c1 : Nat) (i : Int) (w : World) (m0 : l0 ≤ maxLen) (m1 : l1 ≤ maxLen)
    (h : 65536 < l0 ∨ (l0 ≤ 65536 ∧ 65536 < l1) ∨ (l0 ≤ 65536 ∧ l1 ≤ 65536 ∧ l0 ≠ l1) ∨ (l0 ≤ 65536 ∧ l1 ≤ 65536 ∧ l0 = l1 ∧ i < 0) ∨ (l0 ≤ 65536 ∧ l1 ≤ 65536 ∧ l0 = l1 ∧ 0 ≤ i ∧ l0 ≤ i)) :
    Calls Try.prog 5 #[.slice a0 l0 c0, .slice a1 l1 c1, .int .i64 i] w fun e w' => e = .returned (.bool true) ∧ Below w.heap.size w w' := by
  unfold maxLen at m0 m1
  rcases h with h | ⟨h, h'⟩ | ⟨h, h', h2⟩ | ⟨h, h', h2, h3⟩ | ⟨h, h', h2, h3, h4⟩
  all_goals (try have hq : ((l0 : Int) != (l1 : Int)) = true := by simp; omega)
  all_goals (try subst h2)
  all_goals
    go_enter Try.func5, Try.ntmps5
    go_wp2_with (go_at_call 14; refine (bytes14_any _ _ _ _ _ _ _ (by unfold maxLen; omega) (by unfold maxLen; omega) _).mono ?_; rintro e w' ⟨⟨b, rfl⟩, rfl⟩; cases b)
    all_goals
      go_ret
      exact ⟨rfl, Below.refl _ _⟩

/-- The larger of two cells. -/
def mxI (f g : Nat → Int) (j : Nat) : Int := if f j < g j then g j else f j

/-- The larger cells, cell i raised by one. -/
def upI (f g : Nat → Int) (i j : Nat) : Int := if j = i then IntKind.u64.wrap (mxI f g i + 1) else mxI f g j

theorem upI_at {f g : Nat → Int} {i : Nat} (hf : 0 ≤ f i ∧ f i < 18446744073709551615) (hg : 0 ≤ g i ∧ g i < 18446744073709551615) : upI f g i i = mxI f g i + 1 := by
  unfold upI
  rw [if_pos rfl]
  have h : 0 ≤ mxI f g i ∧ mxI f g i < 18446744073709551615 := by unfold mxI; split <;> omega
  rw [IntKind.wrap_u64]
  omega

theorem le_mx (f g : Nat → Int) (j : Nat) : f j ≤ mxI f g j ∧ g j ≤ mxI f g j := by unfold mxI; split <;> omega

theorem up_follows {f g : Nat → Int} {i n : Nat} (hi : i < n) (hf : 0 ≤ f i ∧ f i < 18446744073709551615) (hg : 0 ≤ g i ∧ g i < 18446744073709551615) :
    (cmpI f (upI f g i) n = 1 ∧ cmpI (upI f g i) f n = 2) ∧ cmpI g (upI f g i) n = 1 ∧ cmpI (upI f g i) g n = 2 := by
  have e := upI_at hf hg
  have m := le_mx f g
  have r : ∀ j, f j ≤ upI f g i j ∧ g j ≤ upI f g i j := by
    intro j
    have mj := m j
    by_cases h : j = i
    · subst h; rw [e]; omega
    · unfold upI; rw [if_neg h]; exact mj
  have mi := m i
  exact ⟨cmp_before (fun j _ => (r j).1) hi (by rw [e]; omega), cmp_before (fun j _ => (r j).2) hi (by rw [e]; omega)⟩

/-- The rows in the world behind the store into u. -/
theorem rows_up {w2 wr : World} {k i p0 q0 p1 q1 : Nat} {f g : Nat → Int} (hH : Half w2 w2.heap.size k (mxI f g) k wr) (hi : i < k) (hp0 : p0 < w2.heap.size) (hp1 : p1 < w2.heap.size)
    (hfr : ∀ j, j < k → wr.cell? ⟨p0, q0 + j, none⟩ = some (.int .u64 (f j))) (hgr : ∀ j, j < k → wr.cell? ⟨p1, q1 + j, none⟩ = some (.int .u64 (g j))) (X : World)
    (hX : X = wr.setCell ⟨w2.heap.size, i, none⟩ (.int .u64 (IntKind.u64.wrap (mxI f g i + 1)))) :
    RowAt X.heap.size X (some ⟨p0, q0, none⟩) k f ∧ RowAt X.heap.size X (some ⟨p1, q1, none⟩) k g ∧ RowAt X.heap.size X (some ⟨w2.heap.size, 0, none⟩) k (upI f g i) ∧ Below w2.heap.size w2 X := by
  obtain ⟨h1, h2, h3, h4, h5⟩ := hH
  have hs : X.heap.size = wr.heap.size := by rw [hX]; simp
  have hfar : ∀ b o, b < w2.heap.size → X.cell? ⟨b, o, none⟩ = wr.cell? ⟨b, o, none⟩ := fun b o hb => by
    rw [hX]; exact World.cell?_setCell_other _ _ _ _ (by intro h; injection h with h _; omega)
  have hz := h1.size
  refine ⟨.inr ⟨p0, q0, rfl, by omega, fun j hj => (hfar _ _ hp0).trans (hfr j hj)⟩, .inr ⟨p1, q1, rfl, by omega, fun j hj => (hfar _ _ hp1).trans (hgr j hj)⟩, .inr ⟨_, 0, rfl, by omega, fun j hj => ?_⟩, by rw [hX]; exact h1.setCell (Nat.le_refl _) _⟩
  rw [hX, Nat.zero_add]
  unfold upI
  by_cases e : j = i
  · subst e
    rw [if_pos rfl]
    exact World.cell?_setCell_same _ _ _ (h5 j hj)
  · rw [if_neg e, World.cell?_setCell_other _ _ _ _ (by intro h; injection h with _ h; omega)]
    exact h5 j hj

/-- A box laid behind a call. -/
theorem box_step {X w4 : World} (hb4 : Below X.heap.size X w4) (v : Value) (X5 : World) (hX5 : X5 = w4.alloc (Obj.cells #[v] 27)) :
    Below X.heap.size X X5 ∧ X5.cell? ⟨w4.heap.size, 0, none⟩ = some v ∧ w4.heap.size < X5.heap.size := by
  subst hX5
  exact ⟨hb4.alloc hb4.size _, by simp, by simp⟩

/-- All that the end of the law wants to know of its world, carried over one call. -/
theorem step_all {w X Y : World} (hb : Below X.heap.size X Y) {a b c : Nat} {v0 v1 v2 : Value} {x0 x1 x2 : Option Addr} {k : Nat} {f g u : Nat → Int}
    (e0 : X.cell? ⟨a, 0, none⟩ = some v0) (e1 : X.cell? ⟨b, 0, none⟩ = some v1) (e2 : X.cell? ⟨c, 0, none⟩ = some v2) (u0 : a < X.heap.size) (u1 : b < X.heap.size) (u2 : c < X.heap.size)
    (r0 : RowAt X.heap.size X x0 k f) (r1 : RowAt X.heap.size X x1 k g) (ru : RowAt X.heap.size X x2 k u) (HW : Below w.heap.size w X) :
    Y.cell? ⟨a, 0, none⟩ = some v0 ∧ Y.cell? ⟨b, 0, none⟩ = some v1 ∧ Y.cell? ⟨c, 0, none⟩ = some v2 ∧ a < Y.heap.size ∧ b < Y.heap.size ∧ c < Y.heap.size ∧
    RowAt Y.heap.size Y x0 k f ∧ RowAt Y.heap.size Y x1 k g ∧ RowAt Y.heap.size Y x2 k u ∧ Below w.heap.size w Y :=
  ⟨(hb.cell (by exact u0)).trans e0, (hb.cell (by exact u1)).trans e1, (hb.cell (by exact u2)).trans e2, Nat.lt_of_lt_of_le u0 hb.size, Nat.lt_of_lt_of_le u1 hb.size, Nat.lt_of_lt_of_le u2 hb.size,
    r0.below hb hb.size, r1.below hb hb.size, ru.below hb hb.size, HW.trans (hb.mono HW.size)⟩

/-- One of the two cells is at its largest value. -/
theorem tick_max (b0 o0 n c0 b1 o1 c1 i : Nat) (f g : Nat → Int) (w : World) (hn : n ≤ 65536) (hi : i < n)
    (hf : w.cell? ⟨b0, o0 + i, none⟩ = some (.int .u64 (f i))) (hg : w.cell? ⟨b1, o1 + i, none⟩ = some (.int .u64 (g i)))
    (h : (f i == 18446744073709551615) = true ∨ ((f i == 18446744073709551615) = false ∧ (g i == 18446744073709551615) = true)) :
    Calls Try.prog 5 #[.slice (some ⟨b0, o0, none⟩) n c0, .slice (some ⟨b1, o1, none⟩) n c1, .int .i64 i] w fun e w' => e = .returned (.bool true) ∧ Below w.heap.size w w' := by
  have hq : ((n : Int) != (n : Int)) = false := by simp
  rcases h with h | ⟨h, h'⟩
  all_goals
    go_enter Try.func5, Try.ntmps5
    go_wp2_with (go_at_call 14; refine (bytes14_any _ _ _ _ _ _ _ (by unfold maxLen; omega) (by unfold maxLen; omega) _).mono ?_; rintro e w' ⟨⟨b, rfl⟩, rfl⟩; cases b)
    all_goals
      go_ret
      exact ⟨rfl, Below.refl _ _⟩

set_option maxHeartbeats 400000 in
theorem tick_main (b0 o0 n c0 b1 o1 c1 i : Nat) (f g : Nat → Int) (w : World) (hn : n ≤ 65536) (hi : i < n)
    (hb0 : b0 < w.heap.size) (hb1 : b1 < w.heap.size)
    (hf : ∀ i, i < n → w.cell? ⟨b0, o0 + i, none⟩ = some (.int .u64 (f i))) (hg : ∀ i, i < n → w.cell? ⟨b1, o1 + i, none⟩ = some (.int .u64 (g i)))
    (h : (f i == 18446744073709551615) = false) (h' : (g i == 18446744073709551615) = false)
    (UP : Hid ((cmpI f (upI f g i) n = 1 ∧ cmpI (upI f g i) f n = 2) ∧ cmpI g (upI f g i) n = 1 ∧ cmpI (upI f g i) g n = 2)) :
    Calls Try.prog 5 #[.slice (some ⟨b0, o0, none⟩) n c0, .slice (some ⟨b1, o1, none⟩) n c1, .int .i64 i] w fun e w' => e = .returned (.bool true) ∧ Below w.heap.size w w' := by
  have hq : ((n : Int) != (n : Int)) = false := by simp
  have hfi := hf i hi
  have hgi := hg i hi
  obtain ⟨i0, hif, hz0, hz1, hz2⟩ := info_parts Try.info34
  have hby : i0.bytes * n ≤ 281474976710656 := by rw [hz2]; omega
  have hml : n ≤ maxLen := by unfold maxLen; omega
  go_enter Try.func5, Try.ntmps5
  go_wp2_with fail
  refine (bytes14_any _ _ _ _ _ _ _ (by unfold maxLen; omega) (by unfold maxLen; omega) _).mono ?_
  rintro e w' ⟨⟨b, rfl⟩, rfl⟩
  cases b
  · go_wp2
    go_ret
    exact ⟨rfl, Below.refl _ _⟩
  go_wp2_with fail
  refine (clone_pos _ _ _ f _ (by simp) (.inr ⟨b0, o0, rfl, hb0, hf⟩) hn (by omega)).mono ?_
  rintro e w1 ⟨p0, q0, rfl, hp0, hf1, hw1⟩
  go_wp2_with fail
  refine (clone_pos _ _ _ g _ (by simp) (.inr ⟨b1, o1, rfl, Nat.lt_of_lt_of_le hb1 hw1.size, fun j hj => (hw1.cell (by exact hb1)).trans (hg j hj)⟩) hn (by omega)).mono ?_
  rintro e w2 ⟨p1, q1, rfl, hp1, hg2, hw2⟩
  have hf2 : ∀ j, j < n → w2.cell? ⟨p0, q0 + j, none⟩ = some (.int .u64 (f j)) := fun j hj => (hw2.cell (by exact hp0)).trans (hf1 j hj)
  have hp0' : p0 < w2.heap.size := Nat.lt_of_lt_of_le hp0 hw2.size
  have hw : Below w.heap.size w w2 := hw1.trans (hw2.mono hw1.size)
  clear hf hg hfi hgi hf1 hp0 hw1 hw2 hb0 hb1
  go_wp2_with (at_make; refine wpList_make_full _ rfl _ _ 22 rfl w2.heap.size 34 i0 (.int .u64 0) 1 Try.underlying22 hif hz0 hz1 .i64 .i64 n n n rfl rfl rfl rfl hby hml (Nat.le_refl _) ?_; intro w3 hown hgrow; have HS := half_start (f := mxI f g) hown hgrow; clear hown hgrow)
  go_loopw [8] (fun t wr => ∃ k : Nat, k ≤ n ∧ t = .int .i64 k ∧ Half w2 w2.heap.size n (mxI f g) k wr) (fun t _ => n - (intOf t).toNat)
  case atStart => exact ⟨0, Nat.zero_le _, rfl, HS⟩
  case round =>
    obtain ⟨k, hk, rfl, hH⟩ := hrel
    by_cases hkl : k < n
    · have hst := hH.store hkl
      have hcf : wr.cell? ⟨p0, q0 + k, none⟩ = some (.int .u64 (f k)) := (hH.1.cell (by exact hp0')).trans (hf2 k hkl)
      have hcg : wr.cell? ⟨p1, q1 + k, none⟩ = some (.int .u64 (g k)) := (hH.1.cell (by exact hp1)).trans (hg2 k hkl)
      obtain ⟨v0, hv0⟩ := hH.2.2.2.1 k hkl
      have hf0 := hH.2.2.1 k
      clear hH hf2 hg2 HS
      by_cases hfg : f k < g k
      all_goals
        simp only [mxI, hfg, if_true, if_false] at hst
        go_wp2
        go_roundw
        case rel => exact ⟨k + 1, by omega, by go_num, hst⟩
        case measure => simp [intOf]; omega
    · obtain rfl : k = n := by omega
      have hu := hH.2.2.2.2 i hi
      have hf0 := hH.2.2.1 i
      have hfr : ∀ j, j < k → wr.cell? ⟨p0, q0 + j, none⟩ = some (.int .u64 (f j)) := fun j hj => (hH.1.cell (by exact hp0')).trans (hf2 j hj)
      have hgr : ∀ j, j < k → wr.cell? ⟨p1, q1 + j, none⟩ = some (.int .u64 (g j)) := fun j hj => (hH.1.cell (by exact hp1)).trans (hg2 j hj)
      clear hf2 hg2 HS
      go_wp2_with fail
      obtain ⟨X, hX⟩ : ∃ X, X = wr.setCell ⟨w2.heap.size, i, none⟩ (.int .u64 (IntKind.u64.wrap (mxI f g i + 1))) := ⟨_, rfl⟩
      rw [← hX]
      obtain ⟨r0, r1, ru, hwX⟩ := rows_up hH hi hp0' hp1 hfr hgr X hX
      have HW : Below w.heap.size w X := hw.trans (hwX.mono hw.size)
      clear hH hX hfr hgr hu hf0 hwX hw
      refine (stamp_any _ _ _ _).mono ?_
      rintro e w4 ⟨rfl, hb4⟩
      go_wp2_with fail
      obtain ⟨X5, hX5⟩ : ∃ X5, X5 = w4.alloc (Obj.cells #[Value.slice (some ⟨p0, q0, none⟩) k k] 27) := ⟨_, rfl⟩
      rw [← hX5]
      obtain ⟨bX5, c0, s0⟩ := box_step hb4 _ X5 hX5
      clear hX5 hb4
      refine (stamp_any _ _ _ _).mono ?_
      rintro e w6 ⟨rfl, hb6⟩
      go_wp2_with fail
      obtain ⟨X7, hX7⟩ : ∃ X5, X5 = w6.alloc (Obj.cells #[Value.slice (some ⟨p1, q1, none⟩) k k] 27) := ⟨_, rfl⟩
      rw [← hX7]
      obtain ⟨bX7, c1, s1⟩ := box_step hb6 _ X7 hX7
      clear hX7 hb6
      refine (stamp_any _ _ _ _).mono ?_
      rintro e w8 ⟨rfl, hb8⟩
      have d0 : w8.cell? ⟨w4.heap.size, 0, none⟩ = some (Value.slice (some ⟨p0, q0, none⟩) k k) := (hb8.cell (by exact Nat.lt_of_lt_of_le s0 bX7.size)).trans ((bX7.cell (by exact s0)).trans c0)
      have d1 : w8.cell? ⟨w6.heap.size, 0, none⟩ = some (Value.slice (some ⟨p1, q1, none⟩) k k) := (hb8.cell (by exact s1)).trans c1
      have t0 : w4.heap.size < w8.heap.size := Nat.lt_of_lt_of_le s0 (Nat.le_trans bX7.size hb8.size)
      have t1 : w6.heap.size < w8.heap.size := Nat.lt_of_lt_of_le s1 hb8.size
      have hX8 : Below X.heap.size X w8 := (bX5.trans (bX7.mono bX5.size)).trans (hb8.mono (Nat.le_trans bX5.size bX7.size))
      have hi5 := hX8.size
      clear hb8 bX7 bX5 c0 c1 s0 s1
      go_wp2_with fail
      obtain ⟨X9, hX9⟩ : ∃ X9, X9 = w8.alloc (Obj.cells #[Value.slice (some ⟨w2.heap.size, 0, none⟩) k k] 27) := ⟨_, rfl⟩
      rw [← hX9]
      obtain ⟨bX9, e2, s2⟩ := box_step hX8 _ X9 hX9
      have e0 : X9.cell? ⟨w4.heap.size, 0, none⟩ = some (Value.slice (some ⟨p0, q0, none⟩) k k) := by rw [hX9, World.cell?_alloc_lt _ _ _ t0]; exact d0
      have e1 : X9.cell? ⟨w6.heap.size, 0, none⟩ = some (Value.slice (some ⟨p1, q1, none⟩) k k) := by rw [hX9, World.cell?_alloc_lt _ _ _ t1]; exact d1
      have u0 : w4.heap.size < X9.heap.size := Nat.lt_trans t0 s2
      have u1 : w6.heap.size < X9.heap.size := Nat.lt_trans t1 s2
      replace r0 := r0.below bX9 bX9.size
      replace r1 := r1.below bX9 bX9.size
      replace ru := ru.below bX9 bX9.size
      replace HW := HW.trans (bX9.mono HW.size)
      clear hX9 hX8 d0 d1 t0 t1 bX9 hi5
      refine (compare_lit 1 _ _ k k k f (upI f g i) _ UP.out.1.1 r0 ru hn (Nat.le_refl _)).mono ?_
      rintro e w10 ⟨rfl, hb⟩
      obtain ⟨e0, e1, e2, u0, u1, s2, r0, r1, ru, HW⟩ := step_all hb e0 e1 e2 u0 u1 s2 r0 r1 ru HW
      clear hb
      go_wp2_with fail
      refine (compare_lit 1 _ _ k k k g (upI f g i) _ UP.out.2.1 r1 ru hn (Nat.le_refl _)).mono ?_
      rintro e w11 ⟨rfl, hb⟩
      obtain ⟨e0, e1, e2, u0, u1, s2, r0, r1, ru, HW⟩ := step_all hb e0 e1 e2 u0 u1 s2 r0 r1 ru HW
      clear hb
      go_wp2_with fail
      refine (compare_lit 2 _ _ k k k (upI f g i) f _ UP.out.1.2 ru r0 hn (Nat.le_refl _)).mono ?_
      rintro e w12 ⟨rfl, hb⟩
      obtain ⟨e0, e1, e2, u0, u1, s2, r0, r1, ru, HW⟩ := step_all hb e0 e1 e2 u0 u1 s2 r0 r1 ru HW
      clear hb
      go_wp2_with fail
      refine (compare_lit 2 _ _ k k k (upI f g i) g _ UP.out.2.2 ru r1 hn (Nat.le_refl _)).mono ?_
      rintro e w13 ⟨rfl, hb⟩
      replace HW := HW.trans (hb.mono HW.size)
      clear hb
      go_wp2
      go_ret
      exact ⟨rfl, HW⟩

end Go.Proofs.Qxb6605454a
