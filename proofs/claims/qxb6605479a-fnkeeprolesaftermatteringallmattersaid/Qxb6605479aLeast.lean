/-
  The walk of FnMatteringIsLeastClosedSet.
-/
import Derived.Test.Qxb6605479aMatter
import Derived.Test.Qxb6605479aNaive
import Derived.Test.Qxb6605479aToCA
namespace Go.Proofs.Qxb6605479a
open Go.RowKit

theorem hid {p : Prop} (h : p) : Hid p := h

set_option maxHeartbeats 400000 in
theorem zzmatter_any (goal roles : Nat) (a0 : Option Addr) (cap0 : Nat) (D : Rules) (a1 : Option Addr) (l cap1 : Nat) (f g : Nat → Int) (w : World)
    (hr : roles ≤ 65536) (hg : goal < roles) (hn : D.n ≤ 65536) (hpl : ∀ i, i < D.n → D.pl i ≤ 65536) (hl : l ≤ 65536)
    (hca : CAat w.heap.size w a0 D) (hcr : PairsAt w.heap.size w a1 l f g) (hci : RulesIn D.n D roles) (hri : PairsIn l f g roles) :
    Calls Try.prog 26 #[.int .i64 goal, .int .i64 roles, .slice a0 D.n cap0, .slice a1 l cap1] w fun e w' => ∃ m M, e = .returned (.slice (some ⟨M, 0, none⟩) roles roles) ∧ BoolsAt w'.heap.size w' (some ⟨M, 0, none⟩) roles m ∧ Least D l f g goal m ∧ Below w.heap.size w w' := by
  have HC := (show Hid (CAat w.heap.size w a0 D ∧ PairsAt w.heap.size w a1 l f g ∧ RulesIn D.n D roles ∧ PairsIn l f g roles) from ⟨hca, hcr, hci, hri⟩)
  have HP := hid (hpl)
  clear hca hcr hci hri hpl
  go_enter Try.func26, Try.ntmps26
  go_wp2_with fail
  refine (matter_any goal roles a0 cap0 D a1 l cap1 f g _ hr hg hn HP.out hl HC.out.1 HC.out.2.1 HC.out.2.2.1 HC.out.2.2.2).mono ?_
  rintro e w' ⟨m, M, rfl, h1, h2, h3⟩
  clear HC HP
  have H := hid (And.intro h1 (And.intro h2 h3))
  clear h1 h2 h3
  go_wp2
  go_ret
  exact ⟨m, M, rfl, H.out.1, H.out.2.1, H.out.2.2⟩

set_option maxHeartbeats 400000 in
theorem least_early (goal roles : Int) (a0 : Option Addr) (cap0 : Nat) (D : Rules) (a1 : Option Addr) (l cap1 : Nat) (w : World) (m0 : D.n ≤ maxLen) (m1 : l ≤ maxLen) (hca : CAat w.heap.size w a0 D)
    (h : 65536 < D.n ∨ (D.n ≤ 65536 ∧ 65536 < l) ∨ (D.n ≤ 65536 ∧ l ≤ 65536 ∧ roles < 1) ∨ (D.n ≤ 65536 ∧ l ≤ 65536 ∧ 1 ≤ roles ∧ 65536 < roles)) :
    Calls Try.prog 5 #[.int .i64 goal, .int .i64 roles, .slice a0 D.n cap0, .slice a1 l cap1] w fun e w' => e = .returned (.bool true) ∧ Below w.heap.size w w' := by
  have HC := hid (hca)
  clear hca
  unfold maxLen at m0 m1
  rcases h with h | ⟨h, h'⟩ | ⟨h, h', h2⟩ | ⟨h, h', h2, h3⟩
  all_goals
    go_enter Try.func5, Try.ntmps5
    go_wp2_with (go_at_call 21; refine (bytes21_any _ _ _ _ D _ _ _ _ HC.out (by unfold maxLen; omega)).mono ?_; rintro e w' ⟨⟨b, rfl⟩, rfl⟩; cases b)
    all_goals
      go_ret
      exact ⟨rfl, Below.refl _ _⟩

set_option maxHeartbeats 400000 in
theorem least_goal (goal : Int) (roles : Nat) (a0 : Option Addr) (cap0 : Nat) (D : Rules) (a1 : Option Addr) (l cap1 : Nat) (w : World) (hca : CAat w.heap.size w a0 D)
    (hn : D.n ≤ 65536) (hl : l ≤ 65536) (hr1 : 1 ≤ roles) (hr : roles ≤ 65536) (hg : inR goal roles = false) :
    Calls Try.prog 5 #[.int .i64 goal, .int .i64 roles, .slice a0 D.n cap0, .slice a1 l cap1] w fun e w' => e = .returned (.bool true) ∧ Below w.heap.size w w' := by
  have HC := hid (hca)
  clear hca
  go_enter Try.func5, Try.ntmps5
  go_wp2_with fail
  refine (bytes21_any _ _ _ _ D _ _ _ _ HC.out (by unfold maxLen; omega)).mono ?_
  rintro e w' ⟨⟨b, rfl⟩, rfl⟩
  cases b
  · go_wp2
    go_ret
    exact ⟨rfl, Below.refl _ _⟩
  go_wp2_with fail
  refine (caBytes_any _ _ D _ HC.out).mono ?_
  rintro e w' ⟨⟨v, rfl, hv⟩, rfl⟩
  obtain ⟨hv0, hv1, _⟩ := hv
  by_cases hb : v + 16 * (l : Int) + (roles : Int) ≤ 1048576
  · go_wp2_with (go_at_call 22; refine (inRange_any _ _ _).mono ?_; rintro e w' ⟨rfl, rfl⟩)
    go_ret
    exact ⟨rfl, Below.refl _ _⟩
  · go_wp2
    go_ret
    exact ⟨rfl, Below.refl _ _⟩

set_option maxHeartbeats 1000000 in
theorem least_main (goal roles : Nat) (a0 : Option Addr) (cap0 : Nat) (D : Rules) (a1 : Option Addr) (l cap1 : Nat) (f g : Nat → Int) (w : World) (n0 : a0 = none → D.n = 0 ∧ cap0 = 0) (n1 : a1 = none → l = 0 ∧ cap1 = 0)
    (hca : CAat w.heap.size w a0 D) (hcr : PairsAt w.heap.size w a1 l f g)
    (hn : D.n ≤ 65536) (hl : l ≤ 65536) (hr1 : 1 ≤ roles) (hr : roles ≤ 65536) (hg : goal < roles) :
    Calls Try.prog 5 #[.int .i64 goal, .int .i64 roles, .slice a0 D.n cap0, .slice a1 l cap1] w fun e w' => e = .returned (.bool true) ∧ Below w.heap.size w w' := by
  have hin : inR goal roles = true := by simp [inR]; omega
  have HC := hid (hca)
  have HR := hid (hcr)
  have HN := hid (And.intro n0 n1)
  clear hca hcr n0 n1
  go_enter Try.func5, Try.ntmps5
  go_wp2_with fail
  refine (bytes21_any _ _ _ _ D _ _ _ _ HC.out (by unfold maxLen; omega)).mono ?_
  rintro e w' ⟨⟨b, rfl⟩, rfl⟩
  cases b
  · go_wp2
    go_ret
    exact ⟨rfl, Below.refl _ _⟩
  go_wp2_with fail
  refine (caBytes_any _ _ D _ HC.out).mono ?_
  rintro e w' ⟨⟨v, rfl, hv⟩, rfl⟩
  obtain ⟨hv0, hv1, hv2⟩ := hv
  by_cases hb : v + 16 * (l : Int) + (roles : Int) ≤ 1048576
  rotate_left
  · clear hv2
    go_wp2
    go_ret
    exact ⟨rfl, Below.refl _ _⟩
  obtain ⟨hn26, hpl⟩ := hv2 (by omega)
  have HP := hid (hpl)
  clear hv2 hpl
  go_wp2_with fail
  refine (inRange_any _ _ _).mono ?_
  rintro e w' ⟨rfl, rfl⟩
  rw [hin]
  go_wp2_with fail
  refine (caIn_any _ _ D _ _ hn HP.out HC.out).mono ?_
  rintro e w' ⟨⟨b, rfl, hci⟩, rfl⟩
  cases b
  · clear hci
    go_wp2
    go_ret
    exact ⟨rfl, Below.refl _ _⟩
  have HCI := hid (hci rfl)
  clear hci
  go_wp2_with fail
  refine (crIn_any _ _ _ f g _ _ hl HR.out).mono ?_
  rintro e w' ⟨⟨b, rfl, hri⟩, rfl⟩
  cases b
  · clear hri
    go_wp2
    go_ret
    exact ⟨rfl, Below.refl _ _⟩
  have HRI := hid (hri rfl)
  clear hri
  go_wp2_with fail
  refine (cloneCA_any _ _ D _ HN.out.1 hn HP.out HC.out).mono ?_
  rintro e w1 ⟨x0, y0, rfl, q0, u0, s0, hw1⟩
  have t1 := HR.out.below hw1 hw1.size
  have HS := hid (And.intro s0 (And.intro u0 (And.intro t1 hw1)))
  clear s0 u0 t1 hw1
  go_wp2_with fail
  refine (cloneCR_any _ _ _ f g _ HN.out.2 hl HS.out.2.2.1).mono ?_
  rintro e w2 ⟨x1, y1, rfl, q1, u1, s1, hw2⟩
  have HS2 : Hid (CAat w2.heap.size w2 x0 D ∧ (x0 = none → D.n = 0 ∧ y0 = 0) ∧ PairsAt w2.heap.size w2 x1 l f g ∧ (x1 = none → l = 0 ∧ y1 = 0) ∧ Below w.heap.size w w2) :=
    ⟨HS.out.1.below hw2 hw2.size, HS.out.2.1, s1, u1, HS.out.2.2.2.trans (hw2.mono HS.out.2.2.2.size)⟩
  clear s1 u1 hw2 HS HC HR HN
  go_wp2_with fail
  refine (naive_any goal roles _ _ D _ _ _ f g _ hr hg hn HP.out hl HS2.out.1 HS2.out.2.2.1 HCI.out HRI.out).mono ?_
  rintro e w3 ⟨m, rfl, hM, hL⟩
  have HS3 : Hid (CAat w3.heap.size w3 x0 D ∧ PairsAt w3.heap.size w3 x1 l f g ∧ Below w.heap.size w w3 ∧ BoolsAt w3.heap.size w3 (some ⟨w2.heap.size, 0, none⟩) roles m) :=
    ⟨HS2.out.1.below hM.1.1 hM.1.1.size, HS2.out.2.2.1.below hM.1.1 hM.1.1.size, HS2.out.2.2.2.2.trans (hM.1.1.mono HS2.out.2.2.2.2.size), .inr ⟨_, 0, rfl, hM.1.2.1, fun x hx => by simpa using hM.2 x hx⟩⟩
  have HN : Hid ((x0 = none → D.n = 0 ∧ y0 = 0) ∧ (x1 = none → l = 0 ∧ y1 = 0)) := ⟨HS2.out.2.1, HS2.out.2.2.2.1⟩
  have HL := hid (hL)
  clear hM hL HS2
  go_wp2_with fail
  refine (toCA_any _ _ D _ HN.out.1 hn HP.out HS3.out.1).mono ?_
  rintro e w4 ⟨x2, y2, rfl, q2, u2, s2, hw4⟩
  have HS4 : Hid (CAat w4.heap.size w4 x2 D ∧ PairsAt w4.heap.size w4 x1 l f g ∧ Below w.heap.size w w4 ∧ BoolsAt w4.heap.size w4 (some ⟨w2.heap.size, 0, none⟩) roles m) :=
    ⟨s2, HS3.out.2.1.below hw4 hw4.size, HS3.out.2.2.1.trans (hw4.mono HS3.out.2.2.1.size), HS3.out.2.2.2.below hw4 hw4.size⟩
  clear s2 u2 hw4 HS3
  go_wp2_with fail
  refine (toCR_any _ _ _ f g _ HN.out.2 hl HS4.out.2.1).mono ?_
  rintro e w5 ⟨x3, y3, rfl, q3, u3, s3, hw5⟩
  have HS5 : Hid (CAat w5.heap.size w5 x2 D ∧ PairsAt w5.heap.size w5 x3 l f g ∧ Below w.heap.size w w5 ∧ BoolsAt w5.heap.size w5 (some ⟨w2.heap.size, 0, none⟩) roles m) :=
    ⟨HS4.out.1.below hw5 hw5.size, s3, HS4.out.2.2.1.trans (hw5.mono HS4.out.2.2.1.size), HS4.out.2.2.2.below hw5 hw5.size⟩
  clear s3 u3 hw5 HS4
  go_wp2_with fail
  refine (zzmatter_any goal roles _ _ D _ _ _ f g _ hr hg hn HP.out hl HS5.out.1 HS5.out.2.1 HCI.out HRI.out).mono ?_
  rintro e w6 ⟨m', M, rfl, hB, hL, hw6⟩
  have HS6 : Hid (BoolsAt w6.heap.size w6 (some ⟨M, 0, none⟩) roles m' ∧ BoolsAt w6.heap.size w6 (some ⟨w2.heap.size, 0, none⟩) roles m ∧ Below w.heap.size w w6) :=
    ⟨hB, HS5.out.2.2.2.below hw6 hw6.size, HS5.out.2.2.1.trans (hw6.mono HS5.out.2.2.1.size)⟩
  have HL' := hid (hL)
  clear hB hL hw6 HS5
  go_wp2_with fail
  refine (same_any _ _ roles _ _ m' m _ HS6.out.1 HS6.out.2.1 hr (fun i _ => least_unique HL'.out HL.out i)).mono ?_
  rintro e w7 ⟨rfl, hw7⟩
  have HW := hid (HS6.out.2.2.trans (hw7.mono HS6.out.2.2.size))
  clear hw7 HS6
  go_wp2
  go_ret
  exact ⟨rfl, HW.out⟩

end Go.Proofs.Qxb6605479a
