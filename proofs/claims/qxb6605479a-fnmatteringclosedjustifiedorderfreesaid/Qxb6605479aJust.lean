/-
  The walk of FnMatteringClosedJustifiedOrderFree.
-/
import Derived.Test.Qxb6605479aLeast
import Derived.Test.Qxb6605479aRev
namespace Go.Proofs.Qxb6605479a
open Go.RowKit

theorem rulesIn_rev {D : Rules} {n : Int} (h : RulesIn D.n D n) : RulesIn D.rev.n D.rev n := fun i hi => by
  have hi' : i < D.n := hi
  exact h (D.n - 1 - i) (by omega)
theorem pairsIn_rev {l : Nat} {f g : Nat → Int} {n : Int} (h : PairsIn l f g n) : PairsIn l (revF l f) (revF l g) n := fun i hi => h (l - 1 - i) (by omega)

/-- What is named: the goal, and what a rule whose role is marked names. -/
def NamedCA (D : Rules) (m nm : Nat → Bool) (i : Nat) : Prop := ∀ i', i' < i → m (D.rol i').toNat = true → RuleDone D nm i'
def NamedCR (f g : Nat → Int) (m nm : Nat → Bool) (i : Nat) : Prop := ∀ i', i' < i → m (g i').toNat = true → nm (f i').toNat = true
theorem NamedCA.mono {D : Rules} {m nm nm' : Nat → Bool} {i : Nat} (h : NamedCA D m nm i) (hm : ∀ y, nm y = true → nm' y = true) : NamedCA D m nm' i := fun i' hi' hr => (h i' hi' hr).mono hm
theorem NamedCA.step {D : Rules} {m nm : Nat → Bool} {i : Nat} (h : NamedCA D m nm i) (hi : m (D.rol i).toNat = true → RuleDone D nm i) : NamedCA D m nm (i + 1) := fun i' hi' hr => by
  by_cases e : i' = i
  · subst e; exact hi hr
  · exact h i' (by omega) hr
theorem NamedCR.mono {f g : Nat → Int} {m nm nm' : Nat → Bool} {i : Nat} (h : NamedCR f g m nm i) (hm : ∀ y, nm y = true → nm' y = true) : NamedCR f g m nm' i := fun i' hi' hr => hm _ (h i' hi' hr)
theorem NamedCR.step {f g : Nat → Int} {m nm : Nat → Bool} {i : Nat} (h : NamedCR f g m nm i) (hi : m (g i).toNat = true → nm (f i).toNat = true) : NamedCR f g m nm (i + 1) := fun i' hi' hr => by
  by_cases e : i' = i
  · subst e; exact hi hr
  · exact h i' (by omega) hr

theorem bools_cell {B : Nat} {w : World} {M n x : Nat} {m : Nat → Bool} (h : BoolsAt B w (some ⟨M, 0, none⟩) n m) (hx : x < n) : w.cell? ⟨M, x, none⟩ = some (.bool (m x)) := by
  rcases h with h | ⟨b, off, e, _, hc⟩
  · omega
  · simp at e
    obtain ⟨rfl, rfl⟩ := e
    simpa using hc x hx
theorem bools_lt {B : Nat} {w : World} {M n x : Nat} {m : Nat → Bool} (h : BoolsAt B w (some ⟨M, 0, none⟩) n m) (hx : x < n) : M < B := by
  rcases h with h | ⟨b, off, e, hb, _⟩
  · omega
  · simp at e
    omega

/-- The plain law: every mark is justified. -/
theorem justified {D : Rules} {l : Nat} {f g : Nat → Int} {goal : Nat} {m nm : Nat → Bool} (h : Least D l f g goal m) (hg : nm goal = true) (h1 : NamedCA D m nm D.n) (h2 : NamedCR f g m nm l) {x : Nat} (hx : m x = true) : nm x = true := by
  refine (h.2.2 (fun x => m x = true ∧ nm x = true) ⟨h.1, hg⟩ ⟨fun i hi hr => ?_, fun i hi hr => ?_⟩ x hx).2
  · have a := h.2.1.1 i hi hr.1
    have b := h1 i hi hr.1
    exact ⟨⟨a.1, b.1⟩, fun j hj => ⟨a.2 j hj, b.2 j hj⟩⟩
  · exact ⟨h.2.1.2 i hi hr.1, h2 i hi hr.1⟩

set_option maxRecDepth 100000 in
set_option maxHeartbeats 400000 in
theorem just_early (goal roles : Int) (a0 : Option Addr) (cap0 : Nat) (D : Rules) (a1 : Option Addr) (l cap1 : Nat) (w : World) (m0 : D.n ≤ maxLen) (m1 : l ≤ maxLen) (hca : CAat w.heap.size w a0 D)
    (h : 65536 < D.n ∨ (D.n ≤ 65536 ∧ 65536 < l) ∨ (D.n ≤ 65536 ∧ l ≤ 65536 ∧ roles < 1) ∨ (D.n ≤ 65536 ∧ l ≤ 65536 ∧ 1 ≤ roles ∧ 65536 < roles)) :
    Calls Try.prog 6 #[.int .i64 goal, .int .i64 roles, .slice a0 D.n cap0, .slice a1 l cap1] w fun e w' => e = .returned (.bool true) ∧ Below w.heap.size w w' := by
  have HC := hid (hca)
  clear hca
  unfold maxLen at m0 m1
  rcases h with h | ⟨h, h'⟩ | ⟨h, h', h2⟩ | ⟨h, h', h2, h3⟩
  all_goals
    go_enter Try.func6, Try.ntmps6
    go_wp2_with (go_at_call 28; refine (bytes28_any _ _ _ _ D _ _ _ _ HC.out (by unfold maxLen; omega)).mono ?_; rintro e w' ⟨⟨b, rfl⟩, rfl⟩; cases b)
    all_goals
      go_ret
      exact ⟨rfl, Below.refl _ _⟩

set_option maxRecDepth 100000 in
set_option maxHeartbeats 400000 in
theorem just_goal (goal : Int) (roles : Nat) (a0 : Option Addr) (cap0 : Nat) (D : Rules) (a1 : Option Addr) (l cap1 : Nat) (w : World) (hca : CAat w.heap.size w a0 D)
    (hn : D.n ≤ 65536) (hl : l ≤ 65536) (hr1 : 1 ≤ roles) (hr : roles ≤ 65536) (hg : inR goal roles = false) :
    Calls Try.prog 6 #[.int .i64 goal, .int .i64 roles, .slice a0 D.n cap0, .slice a1 l cap1] w fun e w' => e = .returned (.bool true) ∧ Below w.heap.size w w' := by
  have HC := hid (hca)
  clear hca
  go_enter Try.func6, Try.ntmps6
  go_wp2_with fail
  refine (bytes28_any _ _ _ _ D _ _ _ _ HC.out (by unfold maxLen; omega)).mono ?_
  rintro e w' ⟨⟨b, rfl⟩, rfl⟩
  cases b
  · go_wp2
    go_ret
    exact ⟨rfl, Below.refl _ _⟩
  go_wp2_with fail
  refine (caBytes_any _ _ D _ HC.out).mono ?_
  rintro e w' ⟨⟨v, rfl, hv⟩, rfl⟩
  obtain ⟨hv0, hv1, _⟩ := hv
  by_cases hb : v + 16 * (l : Int) + (roles : Int) ≤ 1048576
  · go_wp2_with (go_at_call 22; refine (inRange_any _ _ _).mono ?_; rintro e w' ⟨rfl, rfl⟩)
    go_ret
    exact ⟨rfl, Below.refl _ _⟩
  · go_wp2
    go_ret
    exact ⟨rfl, Below.refl _ _⟩

set_option maxRecDepth 100000 in
set_option maxHeartbeats 4000000 in
theorem just_main (goal roles : Nat) (a0 : Option Addr) (cap0 : Nat) (D : Rules) (a1 : Option Addr) (l cap1 : Nat) (f g : Nat → Int) (w : World) (n0 : a0 = none → D.n = 0 ∧ cap0 = 0) (n1 : a1 = none → l = 0 ∧ cap1 = 0)
    (hca : CAat w.heap.size w a0 D) (hcr : PairsAt w.heap.size w a1 l f g)
    (hn : D.n ≤ 65536) (hl : l ≤ 65536) (hr1 : 1 ≤ roles) (hr : roles ≤ 65536) (hg : goal < roles) :
    Calls Try.prog 6 #[.int .i64 goal, .int .i64 roles, .slice a0 D.n cap0, .slice a1 l cap1] w fun e w' => e = .returned (.bool true) ∧ Below w.heap.size w w' := by
  have hin : inR goal roles = true := by simp [inR]; omega
  have HC := hid (hca)
  have HR := hid (hcr)
  have HN := hid (And.intro n0 n1)
  clear hca hcr n0 n1
  go_enter Try.func6, Try.ntmps6
  go_wp2_with fail
  refine (bytes28_any _ _ _ _ D _ _ _ _ HC.out (by unfold maxLen; omega)).mono ?_
  rintro e w' ⟨⟨b, rfl⟩, rfl⟩
  cases b
  · go_wp2
    go_ret
    exact ⟨rfl, Below.refl _ _⟩
  go_wp2_with fail
  refine (caBytes_any _ _ D _ HC.out).mono ?_
  rintro e w' ⟨⟨v, rfl, hv⟩, rfl⟩
  obtain ⟨hv0, hv1, hv2⟩ := hv
  by_cases hb : v + 16 * (l : Int) + (roles : Int) ≤ 1048576
  rotate_left
  · clear hv2
    go_wp2
    go_ret
    exact ⟨rfl, Below.refl _ _⟩
  obtain ⟨hn26, hpl⟩ := hv2 (by omega)
  have HP := hid (hpl)
  clear hv2 hpl
  go_wp2_with fail
  refine (inRange_any _ _ _).mono ?_
  rintro e w' ⟨rfl, rfl⟩
  rw [hin]
  go_wp2_with fail
  refine (caIn_any _ _ D _ _ hn HP.out HC.out).mono ?_
  rintro e w' ⟨⟨b, rfl, hci⟩, rfl⟩
  cases b
  · clear hci
    go_wp2
    go_ret
    exact ⟨rfl, Below.refl _ _⟩
  have HCI := hid (hci rfl)
  clear hci
  go_wp2_with fail
  refine (crIn_any _ _ _ f g _ _ hl HR.out).mono ?_
  rintro e w' ⟨⟨b, rfl, hri⟩, rfl⟩
  cases b
  · clear hri
    go_wp2
    go_ret
    exact ⟨rfl, Below.refl _ _⟩
  have HRI := hid (hri rfl)
  clear hri
  go_wp2_with fail
  refine (cloneCA_any _ _ D _ HN.out.1 hn HP.out HC.out).mono ?_
  rintro e w1 ⟨x0, y0, rfl, q0, u0, s0, hw1⟩
  have t1 := HR.out.below hw1 hw1.size
  have HS := hid (And.intro s0 (And.intro u0 (And.intro t1 hw1)))
  clear s0 u0 t1 hw1
  go_wp2_with fail
  refine (cloneCR_any _ _ _ f g _ HN.out.2 hl HS.out.2.2.1).mono ?_
  rintro e w2 ⟨x1, y1, rfl, q1, u1, s1, hw2⟩
  have HS2 : Hid (CAat w2.heap.size w2 x0 D ∧ (x0 = none → D.n = 0 ∧ y0 = 0) ∧ PairsAt w2.heap.size w2 x1 l f g ∧ (x1 = none → l = 0 ∧ y1 = 0) ∧ Below w.heap.size w w2) :=
    ⟨HS.out.1.below hw2 hw2.size, HS.out.2.1, s1, u1, HS.out.2.2.2.trans (hw2.mono HS.out.2.2.2.size)⟩
  clear s1 u1 hw2 HS HC HR HN
  have HN : Hid ((x0 = none → D.n = 0 ∧ y0 = 0) ∧ (x1 = none → l = 0 ∧ y1 = 0)) := ⟨HS2.out.2.1, HS2.out.2.2.2.1⟩
  have HS3 : Hid (CAat w2.heap.size w2 x0 D ∧ PairsAt w2.heap.size w2 x1 l f g ∧ Below w.heap.size w w2) := ⟨HS2.out.1, HS2.out.2.2.1, HS2.out.2.2.2.2⟩
  clear HS2
  go_wp2_with fail
  refine (toCA_any _ _ D _ HN.out.1 hn HP.out HS3.out.1).mono ?_
  rintro e w4 ⟨x2, y2, rfl, q2, u2, s2, hw4⟩
  have HS4 : Hid (CAat w4.heap.size w4 x2 D ∧ CAat w4.heap.size w4 x0 D ∧ PairsAt w4.heap.size w4 x1 l f g ∧ Below w.heap.size w w4) :=
    ⟨s2, HS3.out.1.below hw4 hw4.size, HS3.out.2.1.below hw4 hw4.size, HS3.out.2.2.trans (hw4.mono HS3.out.2.2.size)⟩
  clear s2 u2 hw4 HS3
  go_wp2_with fail
  refine (toCR_any _ _ _ f g _ HN.out.2 hl HS4.out.2.2.1).mono ?_
  rintro e w5 ⟨x3, y3, rfl, q3, u3, s3, hw5⟩
  have HS5 : Hid (CAat w5.heap.size w5 x2 D ∧ PairsAt w5.heap.size w5 x3 l f g ∧ CAat w5.heap.size w5 x0 D ∧ PairsAt w5.heap.size w5 x1 l f g ∧ Below w.heap.size w w5) :=
    ⟨HS4.out.1.below hw5 hw5.size, s3, HS4.out.2.1.below hw5 hw5.size, HS4.out.2.2.1.below hw5 hw5.size, HS4.out.2.2.2.trans (hw5.mono HS4.out.2.2.2.size)⟩
  clear s3 u3 hw5 HS4
  go_wp2_with fail
  refine (zzmatter_any goal roles _ _ D _ _ _ f g _ hr hg hn HP.out hl HS5.out.1 HS5.out.2.1 HCI.out HRI.out).mono ?_
  rintro e w6 ⟨m, M, rfl, hB, hL, hw6⟩
  have HS6 : Hid (BoolsAt w6.heap.size w6 (some ⟨M, 0, none⟩) roles m ∧ CAat w6.heap.size w6 x0 D ∧ PairsAt w6.heap.size w6 x1 l f g ∧ Below w.heap.size w w6) :=
    ⟨hB, HS5.out.2.2.1.below hw6 hw6.size, HS5.out.2.2.2.1.below hw6 hw6.size, HS5.out.2.2.2.2.trans (hw6.mono HS5.out.2.2.2.2.size)⟩
  have HL := hid hL
  have cG : w6.cell? ⟨M, goal, none⟩ = some (.bool true) := by
    have := bools_cell hB hg
    rwa [hL.1] at this
  clear hB hL hw6 HS5
  have hne : ((roles : Int) != (roles : Int)) = false := by simp
  go_wp2_with fail
  refine (revCA_any _ _ D _ HN.out.1 hn HS6.out.2.1).mono ?_
  rintro e w7 ⟨x4, y4, rfl, q4, u4, s4, hw7⟩
  have HS7 : Hid (CAat w7.heap.size w7 x4 D.rev ∧ BoolsAt w7.heap.size w7 (some ⟨M, 0, none⟩) roles m ∧ CAat w7.heap.size w7 x0 D ∧ PairsAt w7.heap.size w7 x1 l f g ∧ Below w.heap.size w w7) :=
    ⟨s4, HS6.out.1.below hw7 hw7.size, HS6.out.2.1.below hw7 hw7.size, HS6.out.2.2.1.below hw7 hw7.size, HS6.out.2.2.2.trans (hw7.mono HS6.out.2.2.2.size)⟩
  have HN4 := hid u4
  clear s4 u4 hw7 HS6 cG
  go_wp2_with fail
  refine (toCA_any _ _ D.rev _ HN4.out hn (fun i hi => HP.out _ (by have : i < D.n := hi; omega)) HS7.out.1).mono ?_
  rintro e w8 ⟨x5, y5, rfl, q5, u5, s5, hw8⟩
  have HS8 : Hid (CAat w8.heap.size w8 x5 D.rev ∧ BoolsAt w8.heap.size w8 (some ⟨M, 0, none⟩) roles m ∧ CAat w8.heap.size w8 x0 D ∧ PairsAt w8.heap.size w8 x1 l f g ∧ Below w.heap.size w w8) :=
    ⟨s5, HS7.out.2.1.below hw8 hw8.size, HS7.out.2.2.1.below hw8 hw8.size, HS7.out.2.2.2.1.below hw8 hw8.size, HS7.out.2.2.2.2.trans (hw8.mono HS7.out.2.2.2.2.size)⟩
  clear s5 u5 hw8 HS7
  go_wp2_with fail
  refine (revCR_any _ _ _ f g _ HN.out.2 hl HS8.out.2.2.2.1).mono ?_
  rintro e w9 ⟨x6, y6, rfl, q6, u6, s6, hw9⟩
  have HS9 : Hid (CAat w9.heap.size w9 x5 D.rev ∧ PairsAt w9.heap.size w9 x6 l (revF l f) (revF l g) ∧ BoolsAt w9.heap.size w9 (some ⟨M, 0, none⟩) roles m ∧ CAat w9.heap.size w9 x0 D ∧ PairsAt w9.heap.size w9 x1 l f g ∧ Below w.heap.size w w9) :=
    ⟨HS8.out.1.below hw9 hw9.size, s6, HS8.out.2.1.below hw9 hw9.size, HS8.out.2.2.1.below hw9 hw9.size, HS8.out.2.2.2.1.below hw9 hw9.size, HS8.out.2.2.2.2.trans (hw9.mono HS8.out.2.2.2.2.size)⟩
  have HN6 := hid u6
  clear s6 u6 hw9 HS8
  go_wp2_with fail
  refine (toCR_any _ _ _ (revF l f) (revF l g) _ HN6.out hl HS9.out.2.1).mono ?_
  rintro e w10 ⟨x7, y7, rfl, q7, u7, s7, hw10⟩
  have HS10 : Hid (CAat w10.heap.size w10 x5 D.rev ∧ PairsAt w10.heap.size w10 x7 l (revF l f) (revF l g) ∧ BoolsAt w10.heap.size w10 (some ⟨M, 0, none⟩) roles m ∧ CAat w10.heap.size w10 x0 D ∧ PairsAt w10.heap.size w10 x1 l f g ∧ Below w.heap.size w w10) :=
    ⟨HS9.out.1.below hw10 hw10.size, s7, HS9.out.2.2.1.below hw10 hw10.size, HS9.out.2.2.2.1.below hw10 hw10.size, HS9.out.2.2.2.2.1.below hw10 hw10.size, HS9.out.2.2.2.2.2.trans (hw10.mono HS9.out.2.2.2.2.2.size)⟩
  clear s7 u7 hw10 HS9
  go_wp2_with fail
  refine (zzmatter_any goal roles _ _ D.rev _ _ _ (revF l f) (revF l g) _ hr hg hn (fun i hi => HP.out _ (by have : i < D.n := hi; omega)) hl HS10.out.1 HS10.out.2.1 (rulesIn_rev HCI.out) (pairsIn_rev HRI.out)).mono ?_
  rintro e w11 ⟨m', M', rfl, hB, hL', hw11⟩
  have HS11 : Hid (BoolsAt w11.heap.size w11 (some ⟨M', 0, none⟩) roles m' ∧ BoolsAt w11.heap.size w11 (some ⟨M, 0, none⟩) roles m ∧ CAat w11.heap.size w11 x0 D ∧ PairsAt w11.heap.size w11 x1 l f g ∧ Below w.heap.size w w11) :=
    ⟨hB, HS10.out.2.2.1.below hw11 hw11.size, HS10.out.2.2.2.1.below hw11 hw11.size, HS10.out.2.2.2.2.1.below hw11 hw11.size, HS10.out.2.2.2.2.2.trans (hw11.mono HS10.out.2.2.2.2.2.size)⟩
  have HL' := hid hL'
  clear hB hL' hw11 HS10
  go_wp2_with fail
  refine (same_any _ _ roles _ _ m m' _ HS11.out.2.1 HS11.out.1 hr (fun i _ => least_unique HL.out (least_rev HL'.out) i)).mono ?_
  rintro e w12 ⟨rfl, hw12⟩
  have HS12 : Hid (BoolsAt w12.heap.size w12 (some ⟨M, 0, none⟩) roles m ∧ CAat w12.heap.size w12 x0 D ∧ PairsAt w12.heap.size w12 x1 l f g ∧ Below w.heap.size w w12) :=
    ⟨HS11.out.2.1.below hw12 hw12.size, HS11.out.2.2.1.below hw12 hw12.size, HS11.out.2.2.2.1.below hw12 hw12.size, HS11.out.2.2.2.2.trans (hw12.mono HS11.out.2.2.2.2.size)⟩
  clear hw12 HS11 HL'
  obtain ⟨b0, hbi, hbz0, hbz1, hbz2⟩ := info_parts Try.info4
  have hb4 : b0.bytes * roles ≤ 281474976710656 := by rw [hbz2]; omega
  have hml : roles ≤ maxLen := by unfold maxLen; omega
  go_wp2_with (at_make; refine wpList_make_full _ rfl _ _ 23 rfl w12.heap.size 4 b0 (.bool false) 1 Try.underlying23 hbi hbz0 hbz1 .i64 .i64 roles roles roles rfl rfl rfl rfl hb4 hml (Nat.le_refl _) ?_; intro w13 hown hgrow; have hM := mrow_start hown hgrow; clear hown hgrow; have hMc := hM.2 goal hg; have hMf := hM.1.2.2.1 goal)
  have hM' := hM.mark hg
  clear hM hMc hMf hbi hbz0 hbz1 hbz2 hb4 hml
  obtain ⟨hBo, hCA, hCR, hWW⟩ := HS12.out
  have HW := hid hWW
  have hMlt : M < w12.heap.size := bools_lt hBo hg
  clear HS12 hWW
  go_loopw [12] (fun t wr => ∃ (i : Nat) (nm : Nat → Bool), i ≤ D.n ∧ t = .int .i64 i ∧ MRow w12 roles nm wr ∧ Hid (nm goal = true ∧ NamedCA D m nm i)) (fun t _ => D.n - (intOf t).toNat)
  case atStart => exact ⟨0, _, Nat.zero_le _, rfl, hM', ⟨upd_same _ _, fun i hi => by omega⟩⟩
  case round =>
    clear hM'
    obtain ⟨i, nm, hin', rfl, hM, HQ⟩ := hrel
    by_cases hil : i < D.n
    · obtain ⟨⟨ha0, ha1⟩, ⟨hr0, hr1'⟩, hlits⟩ := HCI.out i hil
      have hpi := HP.out i hil
      rcases hCA with h0 | ⟨b, off, rfl, hlt, hc⟩
      · omega
      have hrule := hc i hil
      clear hc
      obtain ⟨pa, pc, g1, g2, g3, g4, g5⟩ := hrule.below hlt hM.1.1 (Nat.le_refl _)
      clear g4 g5
      have cR : wr.cell? ⟨M, (D.rol i).toNat, none⟩ = some (.bool (m (D.rol i).toNat)) := (hM.1.1.cell (by exact hMlt)).trans (bools_cell hBo (by omega))
      have cA : wr.cell? ⟨M, (D.adm i).toNat, none⟩ = some (.bool (m (D.adm i).toNat)) := (hM.1.1.cell (by exact hMlt)).trans (bools_cell hBo (by omega))
      cases hmr : m (D.rol i).toNat
      · have HQ' : Hid (nm goal = true ∧ NamedCA D m nm (i + 1)) := ⟨HQ.out.1, HQ.out.2.step fun h => absurd (hmr.symm.trans h) (by simp)⟩
        rw [hmr] at cR
        clear HQ hmr hrule hBo hCR cA
        go_wp2
        go_roundw
        case rel => exact ⟨i + 1, nm, by omega, by go_num, hM, HQ'⟩
        case measure => simp [intOf]; omega
      · have hdone := HL.out.2.1.1 i hil hmr
        rw [hmr] at cR
        rw [show m (D.adm i).toNat = true from hdone.1] at cA
        have hMA := hM.mark (x := (D.adm i).toNat) (by omega)
        obtain ⟨vA, hvA⟩ := hM.1.2.2.2 (D.adm i).toNat (by omega)
        have hfA := hM.1.2.2.1 (D.adm i).toNat
        have HQ' : Hid (upd nm (D.adm i).toNat goal = true ∧ NamedCA D m (upd nm (D.adm i).toNat) i ∧ upd nm (D.adm i).toNat (D.adm i).toNat = true) :=
          ⟨upd_mono HQ.out.1, HQ.out.2.mono fun _ h => upd_mono h, upd_same _ _⟩
        have HD := hid hdone
        have HMR := hid hmr
        clear HQ hmr hM hdone
        go_wp2
        go_loopw [13] (fun t wr => ∃ (j : Nat) (nm : Nat → Bool), j ≤ D.pl i ∧ t = .int .i64 j ∧ MRow w12 roles nm wr ∧ Hid (nm goal = true ∧ NamedCA D m nm i ∧ nm (D.adm i).toNat = true ∧ ∀ j', j' < j → nm (D.lit i j').toNat = true)) (fun t _ => D.pl i - (intOf t).toNat)
        case atStart => exact ⟨0, _, Nat.zero_le _, rfl, hMA, ⟨HQ'.out.1, HQ'.out.2.1, HQ'.out.2.2, fun j hj => by omega⟩⟩
        case round =>
          clear hMA HQ' hvA hfA cR cA g1 g2 g3
          obtain ⟨j, nm, hjn, rfl, hM, HQ⟩ := hrel
          obtain ⟨pa2, pc2, k1, k2, k3, k4, k5⟩ := hrule.below hlt hM.1.1 (Nat.le_refl _)
          clear k4
          by_cases hjl : j < D.pl i
          · rcases k5 with k5 | ⟨pb, po, rfl, hpb, hcl⟩
            · omega
            obtain ⟨q1, q2⟩ := hcl j hjl
            obtain ⟨hj0, hj1⟩ := hlits j hjl
            have cL : wr.cell? ⟨M, (D.lit i j).toNat, none⟩ = some (.bool (m (D.lit i j).toNat)) := (hM.1.1.cell (by exact hMlt)).trans (bools_cell hBo (by omega))
            rw [show m (D.lit i j).toNat = true from HD.out.2 j hjl] at cL
            have hML := hM.mark (x := (D.lit i j).toNat) (by omega)
            obtain ⟨vL, hvL⟩ := hM.1.2.2.2 (D.lit i j).toNat (by omega)
            have hfL := hM.1.2.2.1 (D.lit i j).toNat
            have HQ' : Hid (upd nm (D.lit i j).toNat goal = true ∧ NamedCA D m (upd nm (D.lit i j).toNat) i ∧ upd nm (D.lit i j).toNat (D.adm i).toNat = true ∧ ∀ j', j' < j + 1 → upd nm (D.lit i j).toNat (D.lit i j').toNat = true) :=
              ⟨upd_mono HQ.out.1, HQ.out.2.1.mono fun _ h => upd_mono h, upd_mono HQ.out.2.2.1, fun j' hj' => by
                by_cases e : j' = j
                · subst e; exact upd_same _ _
                · exact upd_mono (HQ.out.2.2.2 j' (by omega))⟩
            clear HQ hM hcl
            go_wp2
            go_roundw
            case rel => exact ⟨j + 1, _, by omega, by go_num, hML, HQ'⟩
            case measure => simp [intOf]; omega
          · have e : j = D.pl i := by omega
            have HQ' : Hid (nm goal = true ∧ NamedCA D m nm (i + 1)) := ⟨HQ.out.1, HQ.out.2.1.step fun _ => ⟨HQ.out.2.2.1, e ▸ HQ.out.2.2.2⟩⟩
            have HE := hid e
            clear e HQ k5 hrule hBo hCR
            go_wp2
            go_roundw
            case rel => exact ⟨i + 1, nm, by omega, by go_num, hM, HQ'⟩
            case measure => simp [intOf]; omega
    · have e : i = D.n := by omega
      have HQ' : Hid (nm goal = true ∧ NamedCA D m nm D.n ∧ NamedCR f g m nm 0) := ⟨HQ.out.1, e ▸ HQ.out.2, fun i hi => by omega⟩
      have HE := hid e
      clear e HQ hCA
      go_wp2
      go_loopw [14] (fun t wr => ∃ (i : Nat) (nm : Nat → Bool), i ≤ l ∧ t = .int .i64 i ∧ MRow w12 roles nm wr ∧ Hid (nm goal = true ∧ NamedCA D m nm D.n ∧ NamedCR f g m nm i)) (fun t _ => l - (intOf t).toNat)
      case atStart => exact ⟨0, _, Nat.zero_le _, rfl, hM, HQ'⟩
      case round =>
        clear hM HQ' HE hil hin'
        obtain ⟨i, nm, hin', rfl, hM, HQ⟩ := hrel
        by_cases hil : i < l
        · obtain ⟨⟨hf0, hf1⟩, hg0, hg1⟩ := HRI.out i hil
          rcases hCR with h0 | ⟨b, off, rfl, hlt, hc⟩
          · omega
          obtain ⟨g1, g2⟩ := hc i hil
          have d1 : wr.cell? ⟨b, off + i * 2, none⟩ = some (.int .i64 (f i)) := (hM.1.1.cell (by exact hlt)).trans g1
          have d2 : wr.cell? ⟨b, off + i * 2 + 1, none⟩ = some (.int .i64 (g i)) := (hM.1.1.cell (by exact hlt)).trans g2
          have cG : wr.cell? ⟨M, (g i).toNat, none⟩ = some (.bool (m (g i).toNat)) := (hM.1.1.cell (by exact hMlt)).trans (bools_cell hBo (by omega))
          have cF : wr.cell? ⟨M, (f i).toNat, none⟩ = some (.bool (m (f i).toNat)) := (hM.1.1.cell (by exact hMlt)).trans (bools_cell hBo (by omega))
          clear g1 g2 hc
          cases hmg : m (g i).toNat
          · have HQ' : Hid (nm goal = true ∧ NamedCA D m nm D.n ∧ NamedCR f g m nm (i + 1)) := ⟨HQ.out.1, HQ.out.2.1, HQ.out.2.2.step fun h => absurd (hmg.symm.trans h) (by simp)⟩
            rw [hmg] at cG
            clear HQ hmg hBo cF
            go_wp2
            go_roundw
            case rel => exact ⟨i + 1, nm, by omega, by go_num, hM, HQ'⟩
            case measure => simp [intOf]; omega
          · have hdone : m (f i).toNat = true := HL.out.2.1.2 i hil hmg
            rw [hmg] at cG
            rw [hdone] at cF
            have hMA := hM.mark (x := (f i).toNat) (by omega)
            obtain ⟨vA, hvA⟩ := hM.1.2.2.2 (f i).toNat (by omega)
            have hfA := hM.1.2.2.1 (f i).toNat
            have HQ' : Hid (upd nm (f i).toNat goal = true ∧ NamedCA D m (upd nm (f i).toNat) D.n ∧ NamedCR f g m (upd nm (f i).toNat) (i + 1)) :=
              ⟨upd_mono HQ.out.1, HQ.out.2.1.mono fun _ h => upd_mono h, (HQ.out.2.2.mono fun _ h => upd_mono h).step fun _ => upd_same _ _⟩
            clear HQ hmg hM hdone hBo
            go_wp2
            go_roundw
            case rel => exact ⟨i + 1, _, by omega, by go_num, hMA, HQ'⟩
            case measure => simp [intOf]; omega
        · have e : i = l := by omega
          have HJ : Hid (∀ x, m x = true → nm x = true) := fun x hx => justified HL.out HQ.out.1 HQ.out.2.1 (e ▸ HQ.out.2.2) hx
          have HWr : Hid (Below w.heap.size w wr) := HW.out.trans (hM.1.1.mono HW.out.size)
          have HE := hid e
          clear e HQ hCR
          go_wp2
          go_loop [15] (fun t => ∃ i : Nat, i ≤ roles ∧ t = .int .i64 i) (fun t => roles - (intOf t).toNat)
          case atStart => exact ⟨0, Nat.zero_le _, rfl⟩
          case round =>
            clear HE hil hin'
            obtain ⟨i, hin', rfl⟩ := hrel
            by_cases hil : i < roles
            · have cX : wr.cell? ⟨M, i, none⟩ = some (.bool (m i)) := (hM.1.1.cell (by exact hMlt)).trans (bools_cell hBo hil)
              have cN := hM.2 i hil
              cases hmi : m i
              · rw [hmi] at cX
                clear hmi hM hBo cN
                go_wp2
                go_round
                case rel => exact ⟨i + 1, by omega, by go_num⟩
                case measure => simp [intOf]; omega
              · rw [hmi] at cX
                rw [HJ.out i hmi] at cN
                clear hmi hM hBo
                go_wp2
                go_round
                case rel => exact ⟨i + 1, by omega, by go_num⟩
                case measure => simp [intOf]; omega
            · clear hM hBo
              go_wp2
              go_ret
              exact ⟨rfl, HWr.out⟩
end Go.Proofs.Qxb6605479a
