/-
  The walk of FnKeepRolesAfterMatteringAllMatter.
-/
import Derived.Test.Qxb6605479aAllA
import Derived.Test.Qxb6605479aKeep
import Derived.Deep.QuietTactic
import Derived.BigQuiet
namespace Go.Proofs.Qxb6605479a
open Go.RowKit

set_option maxHeartbeats 400000 in
theorem zzkeep_any (n goal pb M : Nat) (ra ua aa a0 a1 : Option Addr) (rc ul uc al ac c0 l c1 : Nat) (m : Nat → Bool) (ss : Nat → ByteArray) (uf ug : Nat → Int) (D : Rules) (f g : Nat → Int) (w : World)
    (hp0 : w.cell? ⟨pb, 0, none⟩ = some (.slice ra n rc)) (hp1 : w.cell? ⟨pb, 1, none⟩ = some (.slice ua ul uc)) (hp2 : w.cell? ⟨pb, 2, none⟩ = some (.slice aa al ac)) (hp5 : w.cell? ⟨pb, 5, none⟩ = some (.int .i64 (goal : Int))) (hpb : pb < w.heap.size)
    (hs : StrsAt w.heap.size w ra n ss) (hua : PairsAt w.heap.size w aa al uf ug) (hbo : BoolsAt w.heap.size w (some ⟨M, 0, none⟩) n m) (hca : CAat w.heap.size w a0 D) (hcr : PairsAt w.heap.size w a1 l f g)
    (hn : n ≤ 65536) (hg : goal < n) (hmg : m goal = true) (hal : al ≤ 65536) (hdn : D.n ≤ 65536) (hpl : ∀ i, i < D.n → D.pl i ≤ 65536) (hl : l ≤ 65536)
    (hui : RolesIn al ug n) (hci : RulesIn D.n D n) (hri : PairsIn l f g n) :
    Calls Try.prog 36 #[.pointer (some ⟨pb, 0, none⟩), .slice (some ⟨M, 0, none⟩) n n, .slice a0 D.n c0, .slice a1 l c1] w fun e w' => ∃ K, e = .returned (.pointer (some ⟨K, 0, none⟩)) ∧ KP w w' K n goal m ss D l f g := by
  have H := hid (And.intro hp0 (And.intro hp1 (And.intro hp2 (And.intro hp5 (And.intro hs (And.intro hua (And.intro hbo (And.intro hca (And.intro hcr (And.intro hpl (And.intro hui (And.intro hci (And.intro hri hmg)))))))))))))
  clear hp0 hp1 hp2 hp5 hs hua hbo hca hcr hpl hui hci hri hmg
  go_enter Try.func36, Try.ntmps36
  go_wp2_with fail
  refine (keep_any n goal pb M ra ua aa a0 a1 rc ul uc al ac c0 l c1 m ss uf ug D f g _ H.out.1 H.out.2.1 H.out.2.2.1 H.out.2.2.2.1 hpb H.out.2.2.2.2.1 H.out.2.2.2.2.2.1 H.out.2.2.2.2.2.2.1 H.out.2.2.2.2.2.2.2.1 H.out.2.2.2.2.2.2.2.2.1 hn hg H.out.2.2.2.2.2.2.2.2.2.2.2.2.2 hal hdn H.out.2.2.2.2.2.2.2.2.2.1 hl H.out.2.2.2.2.2.2.2.2.2.2.1 H.out.2.2.2.2.2.2.2.2.2.2.2.1 H.out.2.2.2.2.2.2.2.2.2.2.2.2.1).mono ?_
  rintro e w' ⟨K, rfl, hK⟩
  have HK := hid hK
  clear hK H
  go_wp2
  go_ret
  exact ⟨K, rfl, HK.out⟩

theorem inRange_same (x n : Int) (w : World) : Calls Try.prog 22 #[.int .i64 x, .int .i64 n] w fun e w' => e = .returned (.bool (inR x n)) ∧ w' = w :=
  (inRange_any x n w).mono fun _ _ ⟨h1, h2⟩ => ⟨h1, h2.symm⟩

set_option maxRecDepth 100000 in
set_option maxHeartbeats 8000000 in
theorem all_main (a0 a1 a2 a3 a4 a6 a7 : Option Addr) (n0 c0 n1 c1 n2 c2 n3 c3 c4 : Nat) (goal : Int) (c6 n7 c7 : Nat) (s0 s1 : Nat → ByteArray) (f2 g2 f3 g3 f7 g7 : Nat → Int) (D4 D6 : Rules) (w : World)
    (z0 : Nil a0 n0 c0) (z1 : Nil a1 n1 c1) (z2 : Nil a2 n2 c2) (z3 : Nil a3 n3 c3) (z4 : Nil a4 D4.n c4) (z6 : Nil a6 D6.n c6) (z7 : Nil a7 n7 c7)
    (h7 : Seven w w a0 a1 a2 a3 a4 a6 a7 n0 n1 n2 n3 n7 s0 s1 f2 g2 f3 g3 f7 g7 D4 D6)
    (l0 : n0 ≤ 65536) (l1 : n1 ≤ 65536) (l2 : n2 ≤ 65536) (l3 : n3 ≤ 65536) (l4 : D4.n ≤ 65536) (l6 : D6.n ≤ 65536) (l7 : n7 ≤ 65536) :
    Calls Try.prog 8 #[.slice a0 n0 c0, .slice a1 n1 c1, .slice a2 n2 c2, .slice a3 n3 c3, .slice a4 D4.n c4, .int .i64 goal, .slice a6 D6.n c6, .slice a7 n7 c7] w fun e w' => e = .returned (.bool true) ∧ Below w.heap.size w w' := by
  have HN := hid (And.intro z0 (And.intro z1 (And.intro z2 (And.intro z3 (And.intro z4 (And.intro z6 z7))))))
  have H := hid h7
  clear z0 z1 z2 z3 z4 z6 z7 h7
  go_enter Try.func8, Try.ntmps8
  go_wp2_with fail
  refine (bytes38_any _ _ _ _ _ _ _ _ _ _ _ _ _ _ _ _ _ _ _ _ D4 D6 s0 s1 _ H.out.1 H.out.2.1 H.out.2.2.2.2.1 H.out.2.2.2.2.2.1).mono ?_
  rintro e w' ⟨⟨b, rfl⟩, rfl⟩
  cases b
  · go_wp2
    go_ret
    exact ⟨rfl, Below.refl _ _⟩
  go_wp2_with fail
  refine (strBytes_any _ _ _ s0 _ l0 H.out.1).mono ?_
  rintro e w' ⟨⟨v0, rfl, p0, q0⟩, rfl⟩
  go_wp2_with fail
  refine (strBytes_any _ _ _ s1 _ l1 H.out.2.1).mono ?_
  rintro e w' ⟨⟨v1, rfl, p1, q1⟩, rfl⟩
  go_wp2_with fail
  refine (caBytes_any _ _ D4 _ H.out.2.2.2.2.1).mono ?_
  rintro e w' ⟨⟨v4, rfl, hv4⟩, rfl⟩
  obtain ⟨p4, q4, hv4⟩ := hv4
  have HV4 := hid hv4
  clear hv4
  go_wp2_with fail
  refine (caBytes_any _ _ D6 _ H.out.2.2.2.2.2.1).mono ?_
  rintro e w' ⟨⟨v6, rfl, hv6⟩, rfl⟩
  obtain ⟨p6, q6, hv6⟩ := hv6
  have HV6 := hid hv6
  clear hv6
  by_cases hb : v0 + v1 + 16 * (n2 : Int) + 16 * (n3 : Int) + v4 + v6 + 16 * (n7 : Int) ≤ 1048576
  rotate_left
  · go_wp2
    go_ret
    exact ⟨rfl, Below.refl _ _⟩
  obtain ⟨hn26, hpl6⟩ := HV6.out (by omega)
  obtain ⟨hn24, hpl4⟩ := HV4.out (by omega)
  have HP := hid (And.intro hpl4 hpl6)
  clear HV4 HV6 hpl4 hpl6
  cases hin : inR goal n0
  · go_wp2_with (go_at_call 22; refine (inRange_any _ _ _).mono ?_; rintro e w' ⟨rfl, rfl⟩)
    go_ret
    exact ⟨rfl, Below.refl _ _⟩
  obtain ⟨gl0, gl1⟩ := inR_true hin
  go_wp2_with fail
  refine (inRange_any _ _ _).mono ?_
  rintro e w' ⟨rfl, rfl⟩
  rw [hin]
  go_wp2_with fail
  refine (uaIn_any _ _ _ f2 g2 _ _ l2 H.out.2.2.1).mono ?_
  rintro e w' ⟨⟨b, rfl, hui⟩, rfl⟩
  cases b
  · clear hui
    go_wp2
    go_ret
    exact ⟨rfl, Below.refl _ _⟩
  have HUI := hid (hui rfl)
  clear hui
  go_wp2_with fail
  refine (caIn_any _ _ D6 _ _ l6 HP.out.2 H.out.2.2.2.2.2.1).mono ?_
  rintro e w' ⟨⟨b, rfl, hci⟩, rfl⟩
  cases b
  · clear hci
    go_wp2
    go_ret
    exact ⟨rfl, Below.refl _ _⟩
  have HCI := hid (hci rfl)
  clear hci
  go_wp2_with fail
  refine (crIn_any _ _ _ f7 g7 _ _ l7 H.out.2.2.2.2.2.2.1).mono ?_
  rintro e w' ⟨⟨b, rfl, hri⟩, rfl⟩
  cases b
  · clear hri
    go_wp2
    go_ret
    exact ⟨rfl, Below.refl _ _⟩
  have HRI := hid (hri rfl)
  clear hri
  go_wp2_with fail
  refine (cloneStrs_any _ _ _ s0 _ HN.out.1 l0 H.out.1).mono ?_
  rintro e w1 ⟨x0, y0, rfl, t0, u0, r0, hw1⟩
  have H1 : Hid (Seven w w1 x0 a1 a2 a3 a4 a6 a7 n0 n1 n2 n3 n7 s0 s1 f2 g2 f3 g3 f7 g7 D4 D6) := ⟨r0, (H.out.below hw1).2⟩
  have U0 := hid u0
  clear r0 u0 hw1 H
  go_wp2_with fail
  refine (cloneStrs_any _ _ _ s1 _ HN.out.2.1 l1 H1.out.2.1).mono ?_
  rintro e w2 ⟨x1, y1, rfl, t1, u1, r1, hw2⟩
  have H2 : Hid (Seven w w2 x0 x1 a2 a3 a4 a6 a7 n0 n1 n2 n3 n7 s0 s1 f2 g2 f3 g3 f7 g7 D4 D6) := ⟨(H1.out.below hw2).1, r1, (H1.out.below hw2).2.2⟩
  have U1 := hid u1
  clear r1 u1 hw2 H1
  go_wp2_with fail
  refine (cloneUA_any _ _ _ f2 g2 _ HN.out.2.2.1 l2 H2.out.2.2.1).mono ?_
  rintro e w3 ⟨x2, y2, rfl, t2, u2, r2, hw3⟩
  have H3 : Hid (Seven w w3 x0 x1 x2 a3 a4 a6 a7 n0 n1 n2 n3 n7 s0 s1 f2 g2 f3 g3 f7 g7 D4 D6) := ⟨(H2.out.below hw3).1, (H2.out.below hw3).2.1, r2, (H2.out.below hw3).2.2.2⟩
  have U2 := hid u2
  clear r2 u2 hw3 H2
  go_wp2_with fail
  refine (cloneCR_any _ _ _ f3 g3 _ HN.out.2.2.2.1 l3 H3.out.2.2.2.1).mono ?_
  rintro e w4 ⟨x3, y3, rfl, t3, u3, r3, hw4⟩
  have H4 : Hid (Seven w w4 x0 x1 x2 x3 a4 a6 a7 n0 n1 n2 n3 n7 s0 s1 f2 g2 f3 g3 f7 g7 D4 D6) := ⟨(H3.out.below hw4).1, (H3.out.below hw4).2.1, (H3.out.below hw4).2.2.1, r3, (H3.out.below hw4).2.2.2.2⟩
  have U3 := hid u3
  clear r3 u3 hw4 H3
  go_wp2_with fail
  refine (cloneCA_any _ _ D4 _ HN.out.2.2.2.2.1 l4 HP.out.1 H4.out.2.2.2.2.1).mono ?_
  rintro e w5 ⟨x4, y4, rfl, t4, u4, r4, hw5⟩
  have H5 : Hid (Seven w w5 x0 x1 x2 x3 x4 a6 a7 n0 n1 n2 n3 n7 s0 s1 f2 g2 f3 g3 f7 g7 D4 D6) := ⟨(H4.out.below hw5).1, (H4.out.below hw5).2.1, (H4.out.below hw5).2.2.1, (H4.out.below hw5).2.2.2.1, r4, (H4.out.below hw5).2.2.2.2.2⟩
  have U4 := hid u4
  clear r4 u4 hw5 H4
  go_wp2_with fail
  refine (cloneCA_any _ _ D6 _ HN.out.2.2.2.2.2.1 l6 HP.out.2 H5.out.2.2.2.2.2.1).mono ?_
  rintro e w6 ⟨x6, y6, rfl, t6, u6, r6, hw6⟩
  have H6 : Hid (Seven w w6 x0 x1 x2 x3 x4 x6 a7 n0 n1 n2 n3 n7 s0 s1 f2 g2 f3 g3 f7 g7 D4 D6) := ⟨(H5.out.below hw6).1, (H5.out.below hw6).2.1, (H5.out.below hw6).2.2.1, (H5.out.below hw6).2.2.2.1, (H5.out.below hw6).2.2.2.2.1, r6, (H5.out.below hw6).2.2.2.2.2.2⟩
  have U6 := hid u6
  clear r6 u6 hw6 H5
  go_wp2_with fail
  refine (cloneCR_any _ _ _ f7 g7 _ HN.out.2.2.2.2.2.2 l7 H6.out.2.2.2.2.2.2.1).mono ?_
  rintro e w7 ⟨x7, y7, rfl, t7, u7, r7, hw7⟩
  have H7 : Hid (Seven w w7 x0 x1 x2 x3 x4 x6 x7 n0 n1 n2 n3 n7 s0 s1 f2 g2 f3 g3 f7 g7 D4 D6) := ⟨(H6.out.below hw7).1, (H6.out.below hw7).2.1, (H6.out.below hw7).2.2.1, (H6.out.below hw7).2.2.2.1, (H6.out.below hw7).2.2.2.2.1, (H6.out.below hw7).2.2.2.2.2.1, r7, (H6.out.below hw7).2.2.2.2.2.2.2⟩
  have U7 := hid u7
  clear r7 u7 hw7 H6 HN
  obtain ⟨G, hG⟩ : ∃ G : Nat, goal = G := ⟨goal.toNat, by omega⟩
  subst hG
  have hG : G < n0 := by omega
  go_wp2_with fail
  refine (toCA_any _ _ D6 _ U6.out l6 HP.out.2 H7.out.2.2.2.2.2.1).mono ?_
  rintro e w8 ⟨b6, d6, rfl, t8, _, r8, hw8⟩
  have H8 := hid (H7.out.below hw8)
  have R8 := hid r8
  clear r8 hw8 H7
  go_wp2_with fail
  refine (toCR_any _ _ _ f7 g7 _ U7.out l7 H8.out.2.2.2.2.2.2.1).mono ?_
  rintro e w9 ⟨b7, d7, rfl, t9, _, r9, hw9⟩
  have H9 := hid (H8.out.below hw9)
  have R9 := hid (And.intro (R8.out.below hw9 hw9.size) r9)
  clear r9 hw9 H8 R8
  go_wp2_with fail
  refine (zzmatter_any G n0 _ _ D6 _ _ _ f7 g7 _ l0 hG l6 HP.out.2 l7 R9.out.1 R9.out.2 HCI.out HRI.out).mono ?_
  rintro e w10 ⟨m, M, rfl, hB, hL, hw10⟩
  have H10 := hid (And.intro (H9.out.below hw10) (And.intro hB hL))
  clear hB hL hw10 H9 R9
  have hne : ((n0 : Int) != (n0 : Int)) = false := by simp
  go_wp2
  go_loop [19, 20] (fun c t => ∃ i : Nat, i ≤ n0 ∧ t = .int .i64 i ∧ c = .int .i64 (cnt m i : Nat)) (fun _ t => n0 - (intOf t).toNat)
  case atStart => exact ⟨0, Nat.zero_le _, rfl, rfl⟩
  case round =>
    obtain ⟨i, hi, rfl, rfl⟩ := hrel
    have hci := cnt_le m i
    by_cases hil : i < n0
    · have cM : w10.cell? ⟨M, i, none⟩ = some (.bool (m i)) := bools_cell' H10.out.2.1 hil
      have hs : cnt m (i + 1) = cnt m i + (if m i = true then 1 else 0) := rfl
      have HS := hid hs
      clear hs
      cases hmi : m i
      · rw [hmi] at cM
        have HM := hid hmi
        clear hmi
        go_wp2
        go_round
        case rel => exact ⟨i + 1, by omega, by go_num, by rw [HS.out, HM.out]; simp⟩
        case measure => simp [intOf]; omega
      · rw [hmi] at cM
        have HM := hid hmi
        clear hmi
        go_wp2
        go_round
        case rel => exact ⟨i + 1, by omega, by go_num, by rw [HS.out, HM.out]; simp⟩
        case measure => simp [intOf]; omega
    · have e : i = n0 := by omega
      go_wp2_with fail
      clear e hi hil hci
      have hcn := cnt_le m n0
      refine (cloneStrs_any _ _ _ s0 _ U0.out l0 H10.out.1.1).mono ?_
      rintro e w11 ⟨k0, o0, rfl, t11, _, r11, hw11⟩
      have H11 : Hid (Seven w w11 x0 x1 x2 x3 x4 x6 x7 n0 n1 n2 n3 n7 s0 s1 f2 g2 f3 g3 f7 g7 D4 D6 ∧ BoolsAt w11.heap.size w11 (some ⟨M, 0, none⟩) n0 m ∧ Least D6 n7 f7 g7 G m ∧ StrsAt w11.heap.size w11 k0 n0 s0) :=
        ⟨H10.out.1.below hw11, H10.out.2.1.below hw11 hw11.size, H10.out.2.2, r11⟩
      clear r11 hw11 H10
      go_wp2_with fail
      refine (cloneStrs_any _ _ _ s1 _ U1.out l1 H11.out.1.2.1).mono ?_
      rintro e w12 ⟨k1, o1, rfl, t12, _, _, hw12⟩
      have H12 : Hid (Seven w w12 x0 x1 x2 x3 x4 x6 x7 n0 n1 n2 n3 n7 s0 s1 f2 g2 f3 g3 f7 g7 D4 D6 ∧ BoolsAt w12.heap.size w12 (some ⟨M, 0, none⟩) n0 m ∧ Least D6 n7 f7 g7 G m ∧ StrsAt w12.heap.size w12 k0 n0 s0) :=
        ⟨H11.out.1.below hw12, H11.out.2.1.below hw12 hw12.size, H11.out.2.2.1, H11.out.2.2.2.below hw12 hw12.size⟩
      clear hw12 H11
      go_wp2_with fail
      refine (toUA_any _ _ _ f2 g2 _ U2.out l2 H12.out.1.2.2.1).mono ?_
      rintro e w13 ⟨k2, o2, rfl, t13, _, r13, hw13⟩
      have H13 : Hid (Seven w w13 x0 x1 x2 x3 x4 x6 x7 n0 n1 n2 n3 n7 s0 s1 f2 g2 f3 g3 f7 g7 D4 D6 ∧ BoolsAt w13.heap.size w13 (some ⟨M, 0, none⟩) n0 m ∧ Least D6 n7 f7 g7 G m ∧ StrsAt w13.heap.size w13 k0 n0 s0 ∧ PairsAt w13.heap.size w13 k2 n2 f2 g2) :=
        ⟨H12.out.1.below hw13, H12.out.2.1.below hw13 hw13.size, H12.out.2.2.1, H12.out.2.2.2.below hw13 hw13.size, r13⟩
      clear r13 hw13 H12
      go_wp2_with fail
      refine (toCR_any _ _ _ f3 g3 _ U3.out l3 H13.out.1.2.2.2.1).mono ?_
      rintro e w14 ⟨k3, o3, rfl, t14, _, _, hw14⟩
      have H14 : Hid (Seven w w14 x0 x1 x2 x3 x4 x6 x7 n0 n1 n2 n3 n7 s0 s1 f2 g2 f3 g3 f7 g7 D4 D6 ∧ BoolsAt w14.heap.size w14 (some ⟨M, 0, none⟩) n0 m ∧ Least D6 n7 f7 g7 G m ∧ StrsAt w14.heap.size w14 k0 n0 s0 ∧ PairsAt w14.heap.size w14 k2 n2 f2 g2) :=
        ⟨H13.out.1.below hw14, H13.out.2.1.below hw14 hw14.size, H13.out.2.2.1, H13.out.2.2.2.1.below hw14 hw14.size, H13.out.2.2.2.2.below hw14 hw14.size⟩
      clear hw14 H13
      go_wp2_with fail
      refine (toCA_any _ _ D4 _ U4.out l4 HP.out.1 H14.out.1.2.2.2.2.1).mono ?_
      rintro e w15 ⟨k4, o4, rfl, t15, _, _, hw15⟩
      have H15 : Hid (Seven w w15 x0 x1 x2 x3 x4 x6 x7 n0 n1 n2 n3 n7 s0 s1 f2 g2 f3 g3 f7 g7 D4 D6 ∧ BoolsAt w15.heap.size w15 (some ⟨M, 0, none⟩) n0 m ∧ Least D6 n7 f7 g7 G m ∧ StrsAt w15.heap.size w15 k0 n0 s0 ∧ PairsAt w15.heap.size w15 k2 n2 f2 g2) :=
        ⟨H14.out.1.below hw15, H14.out.2.1.below hw15 hw15.size, H14.out.2.2.1, H14.out.2.2.2.1.below hw15 hw15.size, H14.out.2.2.2.2.below hw15 hw15.size⟩
      clear hw15 H14
      go_wp2_with fail
      obtain ⟨X, hX⟩ : ∃ X, X = w15.alloc (Obj.cells #[Value.slice k0 n0 o0, Value.slice k1 n1 o1, Value.slice k2 n2 o2, Value.slice k3 n3 o3, Value.slice k4 D4.n o4, Value.int .i64 (G : Int)] 62) := ⟨_, rfl⟩
      rw [← hX]
      obtain ⟨xc, xb, xs⟩ := copy_block hX
      have HC : Hid (X.cell? ⟨w15.heap.size, 0, none⟩ = some (.slice k0 n0 o0) ∧ X.cell? ⟨w15.heap.size, 1, none⟩ = some (.slice k1 n1 o1) ∧ X.cell? ⟨w15.heap.size, 2, none⟩ = some (.slice k2 n2 o2) ∧ X.cell? ⟨w15.heap.size, 5, none⟩ = some (.int .i64 (G : Int))) := ⟨xc 0 _ rfl, xc 1 _ rfl, xc 2 _ rfl, xc 5 _ rfl⟩
      have H16 : Hid (Seven w X x0 x1 x2 x3 x4 x6 x7 n0 n1 n2 n3 n7 s0 s1 f2 g2 f3 g3 f7 g7 D4 D6 ∧ BoolsAt X.heap.size X (some ⟨M, 0, none⟩) n0 m ∧ Least D6 n7 f7 g7 G m ∧ StrsAt X.heap.size X k0 n0 s0 ∧ PairsAt X.heap.size X k2 n2 f2 g2) :=
        ⟨H15.out.1.below xb, H15.out.2.1.below xb xb.size, H15.out.2.2.1, H15.out.2.2.2.1.below xb xb.size, H15.out.2.2.2.2.below xb xb.size⟩
      clear hX xc xb H15
      refine (toCA_any _ _ D6 _ U6.out l6 HP.out.2 H16.out.1.2.2.2.2.2.1).mono ?_
      rintro e w17 ⟨k6, o6, rfl, t17, _, r17, hw17⟩
      have H17 : Hid (Seven w w17 x0 x1 x2 x3 x4 x6 x7 n0 n1 n2 n3 n7 s0 s1 f2 g2 f3 g3 f7 g7 D4 D6 ∧ BoolsAt w17.heap.size w17 (some ⟨M, 0, none⟩) n0 m ∧ Least D6 n7 f7 g7 G m ∧ StrsAt w17.heap.size w17 k0 n0 s0 ∧ PairsAt w17.heap.size w17 k2 n2 f2 g2 ∧ CAat w17.heap.size w17 k6 D6) :=
        ⟨H16.out.1.below hw17, H16.out.2.1.below hw17 hw17.size, H16.out.2.2.1, H16.out.2.2.2.1.below hw17 hw17.size, H16.out.2.2.2.2.below hw17 hw17.size, r17⟩
      have HC2 : Hid (w17.cell? ⟨w15.heap.size, 0, none⟩ = some (.slice k0 n0 o0) ∧ w17.cell? ⟨w15.heap.size, 1, none⟩ = some (.slice k1 n1 o1) ∧ w17.cell? ⟨w15.heap.size, 2, none⟩ = some (.slice k2 n2 o2) ∧ w17.cell? ⟨w15.heap.size, 5, none⟩ = some (.int .i64 (G : Int)) ∧ w15.heap.size < w17.heap.size) :=
        ⟨(hw17.cell (by exact xs)).trans HC.out.1, (hw17.cell (by exact xs)).trans HC.out.2.1, (hw17.cell (by exact xs)).trans HC.out.2.2.1, (hw17.cell (by exact xs)).trans HC.out.2.2.2, Nat.lt_of_lt_of_le xs hw17.size⟩
      clear r17 hw17 H16 HC xs
      go_wp2_with fail
      refine (toCR_any _ _ _ f7 g7 _ U7.out l7 H17.out.1.2.2.2.2.2.2.1).mono ?_
      rintro e w18 ⟨k7, o7, rfl, t18, _, r18, hw18⟩
      have H18 : Hid (Seven w w18 x0 x1 x2 x3 x4 x6 x7 n0 n1 n2 n3 n7 s0 s1 f2 g2 f3 g3 f7 g7 D4 D6 ∧ BoolsAt w18.heap.size w18 (some ⟨M, 0, none⟩) n0 m ∧ Least D6 n7 f7 g7 G m ∧ StrsAt w18.heap.size w18 k0 n0 s0 ∧ PairsAt w18.heap.size w18 k2 n2 f2 g2 ∧ CAat w18.heap.size w18 k6 D6 ∧ PairsAt w18.heap.size w18 k7 n7 f7 g7) :=
        ⟨H17.out.1.below hw18, H17.out.2.1.below hw18 hw18.size, H17.out.2.2.1, H17.out.2.2.2.1.below hw18 hw18.size, H17.out.2.2.2.2.1.below hw18 hw18.size, H17.out.2.2.2.2.2.below hw18 hw18.size, r18⟩
      have HC3 : Hid (w18.cell? ⟨w15.heap.size, 0, none⟩ = some (.slice k0 n0 o0) ∧ w18.cell? ⟨w15.heap.size, 1, none⟩ = some (.slice k1 n1 o1) ∧ w18.cell? ⟨w15.heap.size, 2, none⟩ = some (.slice k2 n2 o2) ∧ w18.cell? ⟨w15.heap.size, 5, none⟩ = some (.int .i64 (G : Int)) ∧ w15.heap.size < w18.heap.size) :=
        ⟨(hw18.cell (by exact HC2.out.2.2.2.2)).trans HC2.out.1, (hw18.cell (by exact HC2.out.2.2.2.2)).trans HC2.out.2.1, (hw18.cell (by exact HC2.out.2.2.2.2)).trans HC2.out.2.2.1, (hw18.cell (by exact HC2.out.2.2.2.2)).trans HC2.out.2.2.2.1, Nat.lt_of_lt_of_le HC2.out.2.2.2.2 hw18.size⟩
      clear r18 hw18 H17 HC2
      go_wp2_with fail
      refine (zzkeep_any n0 G w15.heap.size M k0 k1 k2 k6 k7 o0 n1 o1 n2 o2 o6 n7 o7 m s0 f2 g2 D6 f7 g7 _ HC3.out.1 HC3.out.2.1 HC3.out.2.2.1 HC3.out.2.2.2.1 HC3.out.2.2.2.2 H18.out.2.2.2.1 H18.out.2.2.2.2.1 H18.out.2.1 H18.out.2.2.2.2.2.1 H18.out.2.2.2.2.2.2 l0 hG H18.out.2.2.1.1 l2 l6 HP.out.2 l7 HUI.out HCI.out HRI.out).mono ?_
      rintro e w19 ⟨K, rfl, hK⟩
      obtain ⟨hKl, hKB, ⟨rb, rc', e0, eS⟩, ⟨ka, kc, e3, eP⟩, ⟨ca', cc, e4, eC⟩, e5⟩ := hK
      have HL := hid H18.out.2.2.1
      have H19 := hid (H18.out.1.below hKB)
      have HPC := hid (And.intro eP eC)
      have cS : w19.cell? ⟨rb, cnt m G, none⟩ = some (.string (s0 G)) := eS
      have hmG := HL.out.1
      have hcg := cnt_lt hG hmG
      have HMG := hid hmG
      have hkp := kept_in HL.out HCI.out HRI.out
      have HKI := hid hkp
      clear eP eC eS hKB H18 HC3 hmG hkp
      rcases H19.out.1 with h0 | ⟨xb0, xo0, rfl, hxb0, hxc⟩
      · omega
      have cX := hxc G hG
      have hin2 : inR (cnt m G : Nat) (cnt m n0 : Nat) = true := inR_mk (by omega) (by omega)
      have b1 : (0 : Int) ≤ (cnt m G : Int) := by omega
      have b2 : (cnt m G : Int) < (cnt m n0 : Int) := by omega
      have b3 : (0 : Int) ≤ (G : Int) := by omega
      have b4 : (G : Int) < (n0 : Int) := by omega
      clear hxc
      go_wp2
      go_quiet ((go_at_call 22; exact Calls.quiet_of_same (inRange_same _ _ _)))
      obtain ⟨w20, h20⟩ : ∃ w20, w20 = w19.drewN nq := ⟨_, rfl⟩
      rw [← h20]
      have hw20 : Below w19.heap.size w19 w20 := by rw [h20]; exact below_drewN (Below.refl _ _) _
      have f0 := (hw20.cell (p := ⟨K, 0, none⟩) hKl).trans e0
      have f3' := (hw20.cell (p := ⟨K, 3, none⟩) hKl).trans e3
      have f4' := (hw20.cell (p := ⟨K, 4, none⟩) hKl).trans e4
      have f5 := (hw20.cell (p := ⟨K, 5, none⟩) hKl).trans e5
      have H20 : Hid (Below w.heap.size w w20 ∧ PairsAt w20.heap.size w20 ka (kel g7 m n7).length (keptF m (kel g7 m n7) f7) (keptF m (kel g7 m n7) g7) ∧ CAat w20.heap.size w20 ca' (keptD D6 m)) :=
        ⟨H19.out.2.2.2.2.2.2.2.trans (hw20.mono H19.out.2.2.2.2.2.2.2.size), HPC.out.1.below hw20 hw20.size, HPC.out.2.below hw20 hw20.size⟩
      have hK20 : K < w20.heap.size := Nat.lt_of_lt_of_le hKl hw20.size
      have hkn := kel_len D6.rol m D6.n
      have hkr := kel_len g7 m n7
      have HPK : Hid (∀ i, i < (keptD D6 m).n → (keptD D6 m).pl i ≤ 65536) := fun i hi => HP.out.2 _ (mem_kel.1 (getD_mem (show i < (kel D6.rol m D6.n).length from hi))).1
      have hkd : (keptD D6 m).n ≤ 65536 := by show (kel D6.rol m D6.n).length ≤ 65536; omega
      clear h20 hw20 e0 e3 e4 e5 cS cX H19 HPC b1 b2 b3 b4 hin2 hKl
      go_wp2_with fail
      refine (caIn39 _ _ (keptD D6 m) _ _ hkd HPK.out H20.out.2.2 HKI.out.1).mono ?_
      rintro e w' ⟨rfl, rfl⟩
      go_wp2_with fail
      refine (crIn40 _ _ _ (keptF m (kel g7 m n7) f7) (keptF m (kel g7 m n7) g7) _ _ (by omega) H20.out.2.1 HKI.out.2).mono ?_
      rintro e w' ⟨rfl, rfl⟩
      go_wp2
      have HCD := hid (H20.out.2.2.below ((Below.refl w20.heap.size w20).drew) (Nat.le_refl w20.drew.heap.size))
      have HPD := hid (H20.out.2.1.below ((Below.refl w20.heap.size w20).drew) (Nat.le_refl w20.drew.heap.size))
      go_region_held3 (fun w' => w'.cell? ⟨K, 5, none⟩ = some (.int .i64 (cnt m G : Nat)) ∧ w'.cell? ⟨K, 4, none⟩ = some (.slice ca' (keptD D6 m).n cc) ∧ w'.cell? ⟨K, 3, none⟩ = some (.slice ka (kel g7 m n7).length kc))
        (first
          | go_keep
          | exact ⟨(hw21.cell (p := ⟨K, 5, none⟩) hK20).trans f5, (hw21.cell (p := ⟨K, 4, none⟩) hK20).trans f4', (hw21.cell (p := ⟨K, 3, none⟩) hK20).trans f3'⟩)
        ((go_at_call 26; refine (zzmatter_any (cnt m G) (cnt m n0) _ _ (keptD D6 m) _ _ _ (keptF m (kel g7 m n7) f7) (keptF m (kel g7 m n7) g7) _ (by omega) hcg hkd HPK.out (by omega) HCD.out HPD.out HKI.out.1 HKI.out.2).mono ?_; rintro e w21 ⟨m2, M2, rfl, hB2, hL2, hw21⟩))
      have HM2 : Hid (∀ i, i < cnt m n0 → w21.cell? ⟨M2, i, none⟩ = some (.bool true)) := fun i hi => by
        have := bools_cell' hB2 hi
        rwa [all_matter HL.out hL2 hi] at this
      have HW : Hid (Below w.heap.size w w21) := H20.out.1.trans ((show Below w20.heap.size w20 w21 from ((Below.refl _ _).drew).trans hw21).mono H20.out.1.size)
      clear hB2 hL2 hw21 HCD HPD H20 f0 f3' f4' f5
      go_wp2
      go_loop [24] (fun t => ∃ i : Nat, i ≤ cnt m n0 ∧ t = .int .i64 i) (fun t => cnt m n0 - (intOf t).toNat)
      case atStart => exact ⟨0, Nat.zero_le _, rfl⟩
      case round =>
        obtain ⟨i, hi, rfl⟩ := hrel
        by_cases hil : i < cnt m n0
        · have cI := HM2.out i hil
          go_wp2
          go_round
          case rel => exact ⟨i + 1, by omega, by go_num⟩
          case measure => simp [intOf]; omega
        · go_wp2
          go_ret
          exact ⟨rfl, HW.out⟩

end Go.Proofs.Qxb6605479a
