/-
  The size guards: zzBytes.., zzCABytes, and the range guards: contracts.
-/
import Derived.Test.Qxb6605479aMem
namespace Go.Proofs.Qxb6605479a
open Go.RowKit

def RetBool (e : Ending) : Prop := ∃ b : Bool, e = .returned (.bool b)

set_option maxHeartbeats 400000 in
theorem bytes21_any (goal roles : Int) (a0 : Option Addr) (cap : Nat) (D : Rules) (a1 : Option Addr) (l1 c1 : Nat) (w : World)
    (hr : CAat w.heap.size w a0 D) (m1 : l1 ≤ maxLen) :
    Calls Try.prog 21 #[.int .i64 goal, .int .i64 roles, .slice a0 D.n cap, .slice a1 l1 c1] w fun e w' => RetBool e ∧ w = w' := by
  unfold maxLen at m1
  by_cases hn : 1048576 < D.n
  · go_enter Try.func21, Try.ntmps21
    go_wp2
    go_ret
    exact ⟨⟨_, rfl⟩, rfl⟩
  rcases hr with h0 | ⟨b, off, rfl, hlt, hc⟩
  · rw [h0]
    go_enter Try.func21, Try.ntmps21
    go_wp2
    refine wp_loop_rounds 1 ?_
    rw [rounds_succ]
    go_wp2
    all_goals go_ret
    all_goals exact ⟨⟨_, rfl⟩, rfl⟩
  · go_enter Try.func21, Try.ntmps21
    go_wp2
    go_loop [9, 10] (fun z i => ∃ (k : Nat) (y : Int), k ≤ D.n ∧ i = .int .i64 k ∧ z = .int .i64 y ∧ 0 ≤ y ∧ y ≤ 1048576) (fun _ i => D.n - (intOf i).toNat)
    case atStart => exact ⟨0, _, Nat.zero_le _, rfl, rfl, by omega, by omega⟩
    case round =>
      obtain ⟨k, y, hk, rfl, rfl, hy0, hy1⟩ := hrel
      by_cases hkl : k < D.n
      · obtain ⟨pa, pc, g1, g2, g3, g4, g5⟩ := hc k hkl
        clear hc
        go_wp2
        · go_ret
          exact ⟨⟨_, rfl⟩, rfl⟩
        · go_ret
          exact ⟨⟨_, rfl⟩, rfl⟩
        · go_round
          case rel => exact ⟨k + 1, _, by omega, by go_num, rfl, by omega, by omega⟩
          case measure => simp [intOf]; omega
      · clear hc
        go_wp2
        all_goals go_ret
        all_goals exact ⟨⟨_, rfl⟩, rfl⟩

set_option maxHeartbeats 400000 in
theorem bytes28_any (goal roles : Int) (a0 : Option Addr) (cap : Nat) (D : Rules) (a1 : Option Addr) (l1 c1 : Nat) (w : World)
    (hr : CAat w.heap.size w a0 D) (m1 : l1 ≤ maxLen) :
    Calls Try.prog 28 #[.int .i64 goal, .int .i64 roles, .slice a0 D.n cap, .slice a1 l1 c1] w fun e w' => RetBool e ∧ w = w' := by
  unfold maxLen at m1
  by_cases hn : 1048576 < D.n
  · go_enter Try.func28, Try.ntmps28
    go_wp2
    go_ret
    exact ⟨⟨_, rfl⟩, rfl⟩
  rcases hr with h0 | ⟨b, off, rfl, hlt, hc⟩
  · rw [h0]
    go_enter Try.func28, Try.ntmps28
    go_wp2
    refine wp_loop_rounds 1 ?_
    rw [rounds_succ]
    go_wp2
    all_goals go_ret
    all_goals exact ⟨⟨_, rfl⟩, rfl⟩
  · go_enter Try.func28, Try.ntmps28
    go_wp2
    go_loop [9, 10] (fun z i => ∃ (k : Nat) (y : Int), k ≤ D.n ∧ i = .int .i64 k ∧ z = .int .i64 y ∧ 0 ≤ y ∧ y ≤ 1048576) (fun _ i => D.n - (intOf i).toNat)
    case atStart => exact ⟨0, _, Nat.zero_le _, rfl, rfl, by omega, by omega⟩
    case round =>
      obtain ⟨k, y, hk, rfl, rfl, hy0, hy1⟩ := hrel
      by_cases hkl : k < D.n
      · obtain ⟨pa, pc, g1, g2, g3, g4, g5⟩ := hc k hkl
        clear hc
        go_wp2
        · go_ret
          exact ⟨⟨_, rfl⟩, rfl⟩
        · go_ret
          exact ⟨⟨_, rfl⟩, rfl⟩
        · go_round
          case rel => exact ⟨k + 1, _, by omega, by go_num, rfl, by omega, by omega⟩
          case measure => simp [intOf]; omega
      · clear hc
        go_wp2
        all_goals go_ret
        all_goals exact ⟨⟨_, rfl⟩, rfl⟩

/-- zzCABytes: a number from 0 to 1048577; at most 1048576 only where every precondition has at most 65536 literals, and there are at most 26214 rules. -/
def SizeOk (D : Rules) (v : Int) : Prop := 0 ≤ v ∧ v ≤ 1048577 ∧ (v ≤ 1048576 → D.n ≤ 26214 ∧ ∀ i, i < D.n → D.pl i ≤ 65536)

set_option maxHeartbeats 400000 in
theorem caBytes_any (a0 : Option Addr) (cap : Nat) (D : Rules) (w : World) (hr : CAat w.heap.size w a0 D) :
    Calls Try.prog 10 #[.slice a0 D.n cap] w fun e w' => (∃ v, e = .returned (.int .i64 v) ∧ SizeOk D v) ∧ w = w' := by
  by_cases hn : 65536 < D.n
  · go_enter Try.func10, Try.ntmps10
    go_wp2
    go_ret
    exact ⟨⟨_, rfl, by omega, by omega, by omega⟩, rfl⟩
  by_cases hn' : 1048576 < 40 * D.n
  · go_enter Try.func10, Try.ntmps10
    go_wp2
    go_ret
    exact ⟨⟨_, rfl, by omega, by omega, by omega⟩, rfl⟩
  rcases hr with h0 | ⟨b, off, rfl, hlt, hc⟩
  · rw [h0]
    go_enter Try.func10, Try.ntmps10
    go_wp2
    refine wp_loop_rounds 1 ?_
    rw [rounds_succ]
    go_wp2
    go_ret
    exact ⟨⟨_, rfl, by omega, by omega, fun _ => ⟨by omega, fun i hi => by omega⟩⟩, rfl⟩
  · go_enter Try.func10, Try.ntmps10
    go_wp2
    go_loop [3, 4] (fun z i => ∃ (k : Nat) (y : Int), k ≤ D.n ∧ i = .int .i64 k ∧ z = .int .i64 y ∧ 0 ≤ y ∧ y ≤ 1048576 ∧ ∀ i, i < k → D.pl i ≤ 65536) (fun _ i => D.n - (intOf i).toNat)
    case atStart => exact ⟨0, _, Nat.zero_le _, rfl, rfl, by omega, by omega, fun i hi => by omega⟩
    case round =>
      obtain ⟨k, y, hk, rfl, rfl, hy0, hy1, hall⟩ := hrel
      have HA : Hid (∀ i, i < k → D.pl i ≤ 65536) := hall
      clear hall
      by_cases hkl : k < D.n
      · obtain ⟨pa, pc, g1, g2, g3, g4, g5⟩ := hc k hkl
        clear hc g4 g5
        go_wp2
        · go_ret
          exact ⟨⟨_, rfl, by omega, by omega, by omega⟩, rfl⟩
        · go_ret
          exact ⟨⟨_, rfl, by omega, by omega, by omega⟩, rfl⟩
        · go_round
          case rel =>
            refine ⟨k + 1, _, by omega, by go_num, rfl, by omega, by omega, fun i hi => ?_⟩
            by_cases e : i = k
            · subst e; omega
            · exact HA.out i (by omega)
          case measure => simp [intOf]; omega
      · obtain e : k = D.n := by omega
        clear hc
        go_wp2
        go_ret
        exact ⟨⟨_, rfl, by omega, by omega, fun _ => ⟨by omega, fun i hi => HA.out i (by omega)⟩⟩, rfl⟩

/-! ### the range guards -/
def inR (x n : Int) : Bool := decide (0 ≤ x) && decide (x < n)

set_option maxHeartbeats 400000 in
theorem inRange_any (x n : Int) (w : World) : Calls Try.prog 22 #[.int .i64 x, .int .i64 n] w fun e w' => e = .returned (.bool (inR x n)) ∧ w = w' := by
  by_cases h0 : 0 ≤ x <;> by_cases h1 : x < n
  all_goals
    go_enter Try.func22, Try.ntmps22
    go_wp2
    go_ret
    exact ⟨ret_bool (by simp [inR, h0, h1]), rfl⟩

theorem inR_true {x n : Int} (h : inR x n = true) : 0 ≤ x ∧ x < n := by simpa [inR] using h

theorem inRange_yes (x n : Int) (h : inR x n = true) (w : World) : Calls Try.prog 22 #[.int .i64 x, .int .i64 n] w fun e w' => e = .returned (.bool true) ∧ w = w' := by
  rw [← h]; exact inRange_any x n w
theorem inRange_no (x n : Int) (h : inR x n = false) (w : World) : Calls Try.prog 22 #[.int .i64 x, .int .i64 n] w fun e w' => e = .returned (.bool false) ∧ w = w' := by
  rw [← h]; exact inRange_any x n w

def PairsIn (m : Nat) (f g : Nat → Int) (n : Int) : Prop := ∀ i, i < m → (0 ≤ f i ∧ f i < n) ∧ 0 ≤ g i ∧ g i < n
def LitsIn (m : Nat) (lit : Nat → Int) (n : Int) : Prop := ∀ j, j < m → 0 ≤ lit j ∧ lit j < n
def RulesIn (m : Nat) (D : Rules) (n : Int) : Prop := ∀ i, i < m → (0 ≤ D.adm i ∧ D.adm i < n) ∧ (0 ≤ D.rol i ∧ D.rol i < n) ∧ LitsIn (D.pl i) (D.lit i) n

def Tells (e : Ending) (p : Prop) : Prop := ∃ b : Bool, e = .returned (.bool b) ∧ (b = true → p)

set_option maxHeartbeats 400000 in
theorem crIn_any (a0 : Option Addr) (l cap : Nat) (f g : Nat → Int) (n : Int) (w : World) (hl : l ≤ 65536) (hr : PairsAt w.heap.size w a0 l f g) :
    Calls Try.prog 23 #[.slice a0 l cap, .int .i64 n] w fun e w' => Tells e (PairsIn l f g n) ∧ w = w' := by
  rcases hr with h0 | ⟨b, off, rfl, hlt, hc⟩
  · subst h0
    go_enter Try.func23, Try.ntmps23
    go_wp2
    refine wp_loop_rounds 1 ?_
    rw [rounds_succ]
    go_wp2
    go_ret
    exact ⟨⟨true, rfl, fun _ i hi => by omega⟩, rfl⟩
  · go_enter Try.func23, Try.ntmps23
    go_wp2
    go_loop [5] (fun i => ∃ k : Nat, k ≤ l ∧ i = .int .i64 k ∧ PairsIn k f g n) (fun i => l - (intOf i).toNat)
    case atStart => exact ⟨0, Nat.zero_le _, rfl, fun i hi => by omega⟩
    case round =>
      obtain ⟨k, hk, rfl, hall⟩ := hrel
      have HA : Hid (PairsIn k f g n) := hall
      clear hall
      by_cases hkl : k < l
      · obtain ⟨g1, g2⟩ := hc k hkl
        clear hc
        cases hf : inR (f k) n
        · go_wp2_with (go_at_call 22; refine (inRange_any _ _ _).mono ?_; rintro e w' ⟨rfl, rfl⟩)
          go_ret
          exact ⟨⟨false, rfl, fun h => by cases h⟩, rfl⟩
        cases hg : inR (g k) n
        · go_wp2_with (go_at_call 22; refine (inRange_any _ _ _).mono ?_; rintro e w' ⟨rfl, rfl⟩)
          go_ret
          exact ⟨⟨false, rfl, fun h => by cases h⟩, rfl⟩
        · go_wp2_with (go_at_call 22; refine (inRange_any _ _ _).mono ?_; rintro e w' ⟨rfl, rfl⟩)
          go_round
          case rel =>
            refine ⟨k + 1, by omega, by go_num, fun i hi => ?_⟩
            by_cases e : i = k
            · subst e; exact ⟨inR_true hf, inR_true hg⟩
            · exact HA.out i (by omega)
          case measure => simp [intOf]; omega
      · obtain rfl : k = l := by omega
        clear hc
        go_wp2
        go_ret
        exact ⟨⟨true, rfl, fun _ => HA.out⟩, rfl⟩

set_option maxHeartbeats 1000000 in
theorem caIn_any (a0 : Option Addr) (cap : Nat) (D : Rules) (n : Int) (w : World) (hl : D.n ≤ 65536) (hp : ∀ i, i < D.n → D.pl i ≤ 65536) (hr : CAat w.heap.size w a0 D) :
    Calls Try.prog 11 #[.slice a0 D.n cap, .int .i64 n] w fun e w' => Tells e (RulesIn D.n D n) ∧ w = w' := by
  rcases hr with h0 | ⟨b, off, rfl, hlt, hc⟩
  · rw [h0]
    go_enter Try.func11, Try.ntmps11
    go_wp2
    refine wp_loop_rounds 1 ?_
    rw [rounds_succ]
    go_wp2
    go_ret
    exact ⟨⟨true, rfl, fun _ i hi => by omega⟩, rfl⟩
  · go_enter Try.func11, Try.ntmps11
    go_wp2
    go_loop [5] (fun i => ∃ k : Nat, k ≤ D.n ∧ i = .int .i64 k ∧ RulesIn k D n) (fun i => D.n - (intOf i).toNat)
    case atStart => exact ⟨0, Nat.zero_le _, rfl, fun i hi => by omega⟩
    case round =>
      obtain ⟨k, hk, rfl, hall⟩ := hrel
      have HA : Hid (RulesIn k D n) := hall
      clear hall
      by_cases hkl : k < D.n
      · obtain ⟨pa, pc, g1, g2, g3, g4, g5⟩ := hc k hkl
        have hpl := hp k hkl
        clear hc hp
        cases hf : inR (D.adm k) n
        · go_wp2_with (go_at_call 22; refine (inRange_any _ _ _).mono ?_; rintro e w' ⟨rfl, rfl⟩)
          go_ret
          exact ⟨⟨false, rfl, fun h => by cases h⟩, rfl⟩
        cases hg : inR (D.rol k) n
        · go_wp2_with (go_at_call 22; refine (inRange_any _ _ _).mono ?_; rintro e w' ⟨rfl, rfl⟩)
          go_ret
          exact ⟨⟨false, rfl, fun h => by cases h⟩, rfl⟩
        go_wp2_with (go_at_call 22; refine (inRange_any _ _ _).mono ?_; rintro e w' ⟨rfl, rfl⟩)
        go_loop [6] (fun t => ∃ j : Nat, j ≤ D.pl k ∧ t = .int .i64 j ∧ LitsIn j (D.lit k) n) (fun t => D.pl k - (intOf t).toNat)
        case atStart => exact ⟨0, Nat.zero_le _, rfl, fun i hi => by omega⟩
        case round =>
          obtain ⟨j, hj, rfl, hlit⟩ := hrel
          have HL : Hid (LitsIn j (D.lit k) n) := hlit
          clear hlit
          by_cases hjl : j < D.pl k
          · rcases g5 with g5 | ⟨pb, po, rfl, _, hlits⟩
            · omega
            obtain ⟨q1, q2⟩ := hlits j hjl
            clear hlits
            cases hq : inR (D.lit k j) n
            · go_wp2_with (go_at_call 22; refine (inRange_any _ _ _).mono ?_; rintro e w' ⟨rfl, rfl⟩)
              go_ret
              exact ⟨⟨false, rfl, fun h => by cases h⟩, rfl⟩
            · go_wp2_with (go_at_call 22; refine (inRange_any _ _ _).mono ?_; rintro e w' ⟨rfl, rfl⟩)
              go_round
              case rel =>
                refine ⟨j + 1, by omega, by go_num, fun i hi => ?_⟩
                by_cases e : i = j
                · subst e; exact inR_true hq
                · exact HL.out i (by omega)
              case measure => simp [intOf]; omega
          · obtain e : j = D.pl k := by omega
            have HE := (show Hid _ from e)
            clear e g5
            go_wp2
            go_round
            case rel =>
              refine ⟨k + 1, by omega, by go_num, fun i hi => ?_⟩
              by_cases e : i = k
              · subst e; exact ⟨inR_true hf, inR_true hg, HE.out ▸ HL.out⟩
              · exact HA.out i (by omega)
            case measure => simp [intOf]; omega
      · obtain e : k = D.n := by omega
        have HE := (show Hid _ from e)
        clear e hc hp
        go_wp2
        go_ret
        exact ⟨⟨true, rfl, fun _ => HE.out ▸ HA.out⟩, rfl⟩

end Go.Proofs.Qxb6605479a
