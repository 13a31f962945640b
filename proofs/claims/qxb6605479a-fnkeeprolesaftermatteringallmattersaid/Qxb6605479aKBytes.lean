/-
  More guards and clones, for the law on keepRoles: contracts.
-/
import Derived.Test.Qxb6605479aLeast
namespace Go.Proofs.Qxb6605479a
open Go.RowKit

/-- A slice of strings lies below block B. -/
def StrsAt (B : Nat) (w : World) (a : Option Addr) (n : Nat) (ss : Nat → ByteArray) : Prop :=
  n = 0 ∨ ∃ b off, a = some ⟨b, off, none⟩ ∧ b < B ∧ ∀ i, i < n → w.cell? ⟨b, off + i, none⟩ = some (.string (ss i))

theorem StrsAt.below {B B' : Nat} {w w' : World} {a : Option Addr} {n : Nat} {ss : Nat → ByteArray} (h : StrsAt B w a n ss) (hb : Below B w w') (hB : B ≤ B') : StrsAt B' w' a n ss := by
  rcases h with h | ⟨b, off, rfl, hlt, hc⟩
  · exact .inl h
  · exact .inr ⟨b, off, rfl, by omega, fun j hj => (hb.cell hlt).trans (hc j hj)⟩

set_option maxRecDepth 100000 in
set_option maxHeartbeats 4000000 in
theorem bytes38_any (b0 b1 b2 b3 b4 b6 b7 : Option Addr) (n0 c0 n1 c1 n2 c2 n3 c3 c4 : Nat) (goal : Int) (c6 n7 c7 : Nat) (D4 D6 : Rules) (s0 s1 : Nat → ByteArray) (w : World)
    (h0 : StrsAt w.heap.size w b0 n0 s0) (h1 : StrsAt w.heap.size w b1 n1 s1) (h4 : CAat w.heap.size w b4 D4) (h6 : CAat w.heap.size w b6 D6) :
    Calls Try.prog 38 #[.slice b0 n0 c0, .slice b1 n1 c1, .slice b2 n2 c2, .slice b3 n3 c3, .slice b4 D4.n c4, .int .i64 goal, .slice b6 D6.n c6, .slice b7 n7 c7] w fun e w' => RetBool e ∧ w = w' := by
  go_enter Try.func38, Try.ntmps38
  go_wp2
  any_goals (go_ret; exact ⟨⟨_, rfl⟩, rfl⟩)
  go_loop [17, 18] (fun z i => ∃ (k : Nat) (y : Int), k ≤ n0 ∧ i = .int .i64 k ∧ z = .int .i64 y ∧ 0 ≤ y ∧ y ≤ 1048576) (fun _ i => n0 - (intOf i).toNat)
  case atStart => exact ⟨0, _, Nat.zero_le _, rfl, rfl, by omega, by omega⟩
  case round =>
    obtain ⟨k, y, hk, rfl, rfl, hy0, hy1⟩ := hrel
    by_cases hkl : k < n0
    · rcases h0 with h0 | ⟨b, off, rfl, hlt, hc⟩
      · omega
      have g := hc k hkl
      clear hc h1 h4 h6
      go_wp2
      any_goals (go_ret; exact ⟨⟨_, rfl⟩, rfl⟩)
      go_round
      case rel => exact ⟨k + 1, _, by omega, by go_num, rfl, by omega, by omega⟩
      case measure => simp [intOf]; omega
    · clear h0
      go_wp2
      any_goals (go_ret; exact ⟨⟨_, rfl⟩, rfl⟩)
      go_loop [17, 19] (fun z i => ∃ (k : Nat) (y : Int), k ≤ n1 ∧ i = .int .i64 k ∧ z = .int .i64 y ∧ 0 ≤ y ∧ y ≤ 1048576) (fun _ i => n1 - (intOf i).toNat)
      case atStart => exact ⟨0, _, Nat.zero_le _, rfl, rfl, by omega, by omega⟩
      case round =>
        clear hk hkl hy0 hy1
        obtain ⟨k, y, hk, rfl, rfl, hy0, hy1⟩ := hrel
        by_cases hkl : k < n1
        · rcases h1 with h1 | ⟨b, off, rfl, hlt, hc⟩
          · omega
          have g := hc k hkl
          clear hc h4 h6
          go_wp2
          any_goals (go_ret; exact ⟨⟨_, rfl⟩, rfl⟩)
          go_round
          case rel => exact ⟨k + 1, _, by omega, by go_num, rfl, by omega, by omega⟩
          case measure => simp [intOf]; omega
        · clear h1
          go_wp2
          any_goals (go_ret; exact ⟨⟨_, rfl⟩, rfl⟩)
          go_loop [17, 20] (fun z i => ∃ (k : Nat) (y : Int), k ≤ D4.n ∧ i = .int .i64 k ∧ z = .int .i64 y ∧ 0 ≤ y ∧ y ≤ 1048576) (fun _ i => D4.n - (intOf i).toNat)
          case atStart => exact ⟨0, _, Nat.zero_le _, rfl, rfl, by omega, by omega⟩
          case round =>
            clear hk hkl hy0 hy1
            obtain ⟨k, y, hk, rfl, rfl, hy0, hy1⟩ := hrel
            by_cases hkl : k < D4.n
            · rcases h4 with h4 | ⟨b, off, rfl, hlt, hc⟩
              · omega
              obtain ⟨pa, pc, g1, g2, g3, g4, g5⟩ := hc k hkl
              clear hc h6 g4 g5
              go_wp2
              any_goals (go_ret; exact ⟨⟨_, rfl⟩, rfl⟩)
              go_round
              case rel => exact ⟨k + 1, _, by omega, by go_num, rfl, by omega, by omega⟩
              case measure => simp [intOf]; omega
            · clear h4
              go_wp2
              any_goals (go_ret; exact ⟨⟨_, rfl⟩, rfl⟩)
              go_loop [17, 21] (fun z i => ∃ (k : Nat) (y : Int), k ≤ D6.n ∧ i = .int .i64 k ∧ z = .int .i64 y ∧ 0 ≤ y ∧ y ≤ 1048576) (fun _ i => D6.n - (intOf i).toNat)
              case atStart => exact ⟨0, _, Nat.zero_le _, rfl, rfl, by omega, by omega⟩
              case round =>
                clear hk hkl hy0 hy1
                obtain ⟨k, y, hk, rfl, rfl, hy0, hy1⟩ := hrel
                by_cases hkl : k < D6.n
                · rcases h6 with h6 | ⟨b, off, rfl, hlt, hc⟩
                  · omega
                  obtain ⟨pa, pc, g1, g2, g3, g4, g5⟩ := hc k hkl
                  clear hc g4 g5
                  go_wp2
                  any_goals (go_ret; exact ⟨⟨_, rfl⟩, rfl⟩)
                  go_round
                  case rel => exact ⟨k + 1, _, by omega, by go_num, rfl, by omega, by omega⟩
                  case measure => simp [intOf]; omega
                · clear h6
                  go_wp2
                  all_goals (go_ret; exact ⟨⟨_, rfl⟩, rfl⟩)

/-- zzStrBytes: a number from 0 to 1048577. -/
theorem strBytes_any (a : Option Addr) (n cap : Nat) (ss : Nat → ByteArray) (w : World) (hn : n ≤ 65536) (hr : StrsAt w.heap.size w a n ss) :
    Calls Try.prog 31 #[.slice a n cap] w fun e w' => (∃ v : Int, e = .returned (.int .i64 v) ∧ 0 ≤ v ∧ v ≤ 1048577) ∧ w = w' := by
  go_enter Try.func31, Try.ntmps31
  go_wp2
  go_loop [3, 4] (fun z i => ∃ (k : Nat) (y : Int), k ≤ n ∧ i = .int .i64 k ∧ z = .int .i64 y ∧ 0 ≤ y ∧ y ≤ 1048576) (fun _ i => n - (intOf i).toNat)
  case atStart => exact ⟨0, _, Nat.zero_le _, rfl, rfl, by omega, by omega⟩
  case round =>
    obtain ⟨k, y, hk, rfl, rfl, hy0, hy1⟩ := hrel
    by_cases hkl : k < n
    · rcases hr with h0 | ⟨b, off, rfl, hlt, hc⟩
      · omega
      have g := hc k hkl
      clear hc
      go_wp2
      any_goals (go_ret; exact ⟨⟨_, rfl, by omega, by omega⟩, rfl⟩)
      go_round
      case rel => exact ⟨k + 1, _, by omega, by go_num, rfl, by omega, by omega⟩
      case measure => simp [intOf]; omega
    · clear hr
      go_wp2
      go_ret
      exact ⟨⟨_, rfl, by omega, by omega⟩, rfl⟩

def RolesIn (m : Nat) (g : Nat → Int) (n : Int) : Prop := ∀ i, i < m → 0 ≤ g i ∧ g i < n

theorem uaIn_any (a0 : Option Addr) (l cap : Nat) (f g : Nat → Int) (n : Int) (w : World) (hl : l ≤ 65536) (hr : PairsAt w.heap.size w a0 l f g) :
    Calls Try.prog 32 #[.slice a0 l cap, .int .i64 n] w fun e w' => Tells e (RolesIn l g n) ∧ w = w' := by
  go_enter Try.func32, Try.ntmps32
  go_wp2
  go_loop [5] (fun i => ∃ k : Nat, k ≤ l ∧ i = .int .i64 k ∧ RolesIn k g n) (fun i => l - (intOf i).toNat)
  case atStart => exact ⟨0, Nat.zero_le _, rfl, fun i hi => by omega⟩
  case round =>
    obtain ⟨k, hk, rfl, hall⟩ := hrel
    have HA := hid hall
    clear hall
    by_cases hkl : k < l
    · rcases hr with h0 | ⟨b, off, rfl, hlt, hc⟩
      · omega
      obtain ⟨g1, g2⟩ := hc k hkl
      clear hc
      cases hg : inR (g k) n
      · go_wp2_with (go_at_call 22; refine (inRange_any _ _ _).mono ?_; rintro e w' ⟨rfl, rfl⟩)
        go_ret
        exact ⟨⟨false, rfl, fun h => by cases h⟩, rfl⟩
      · go_wp2_with (go_at_call 22; refine (inRange_any _ _ _).mono ?_; rintro e w' ⟨rfl, rfl⟩)
        go_round
        case rel =>
          refine ⟨k + 1, by omega, by go_num, fun i hi => ?_⟩
          by_cases e : i = k
          · subst e; exact inR_true hg
          · exact HA.out i (by omega)
        case measure => simp [intOf]; omega
    · obtain e : k = l := by omega
      have HE := hid e
      clear e hr
      go_wp2
      go_ret
      exact ⟨⟨true, rfl, fun _ => HE.out ▸ HA.out⟩, rfl⟩

theorem inR_mk {x n : Int} (h0 : 0 ≤ x) (h1 : x < n) : inR x n = true := by simp [inR]; omega

/-- The range guard of the kept revoke rules, where all is in range. -/
theorem crIn40 (a0 : Option Addr) (l cap : Nat) (f g : Nat → Int) (n : Int) (w : World) (hl : l ≤ 65536) (hr : PairsAt w.heap.size w a0 l f g) (hin : PairsIn l f g n) :
    Calls Try.prog 40 #[.slice a0 l cap, .int .i64 n] w fun e w' => e = .returned (.bool true) ∧ w = w' := by
  go_enter Try.func40, Try.ntmps40
  go_wp2
  go_loop [5] (fun i => ∃ k : Nat, k ≤ l ∧ i = .int .i64 k) (fun i => l - (intOf i).toNat)
  case atStart => exact ⟨0, Nat.zero_le _, rfl⟩
  case round =>
    obtain ⟨k, hk, rfl⟩ := hrel
    by_cases hkl : k < l
    · rcases hr with h0 | ⟨b, off, rfl, hlt, hc⟩
      · omega
      obtain ⟨g1, g2⟩ := hc k hkl
      obtain ⟨⟨i0, i1⟩, i2, i3⟩ := hin k hkl
      have hf := inR_mk i0 i1
      have hg := inR_mk i2 i3
      clear hc hin i0 i1 i2 i3
      go_wp2_with (go_at_call 22; refine (inRange_any _ _ _).mono ?_; rintro e w' ⟨rfl, rfl⟩)
      go_round
      case rel => exact ⟨k + 1, by omega, by go_num⟩
      case measure => simp [intOf]; omega
    · clear hr hin
      go_wp2
      go_ret
      exact ⟨rfl, rfl⟩

set_option maxHeartbeats 1000000 in
/-- The range guard of the kept assign rules, where all is in range. -/
theorem caIn39 (a0 : Option Addr) (cap : Nat) (D : Rules) (n : Int) (w : World) (hl : D.n ≤ 65536) (hp : ∀ i, i < D.n → D.pl i ≤ 65536) (hr : CAat w.heap.size w a0 D) (hin : RulesIn D.n D n) :
    Calls Try.prog 39 #[.slice a0 D.n cap, .int .i64 n] w fun e w' => e = .returned (.bool true) ∧ w = w' := by
  go_enter Try.func39, Try.ntmps39
  go_wp2
  go_loop [5] (fun i => ∃ k : Nat, k ≤ D.n ∧ i = .int .i64 k) (fun i => D.n - (intOf i).toNat)
  case atStart => exact ⟨0, Nat.zero_le _, rfl⟩
  case round =>
    obtain ⟨k, hk, rfl⟩ := hrel
    by_cases hkl : k < D.n
    · rcases hr with h0 | ⟨b, off, rfl, hlt, hc⟩
      · omega
      obtain ⟨pa, pc, g1, g2, g3, g4, g5⟩ := hc k hkl
      have hpl := hp k hkl
      obtain ⟨⟨i0, i1⟩, ⟨i2, i3⟩, hlits⟩ := hin k hkl
      have hf := inR_mk i0 i1
      have hg := inR_mk i2 i3
      clear hc hp hin i0 i1 i2 i3 g4
      go_wp2_with (go_at_call 22; refine (inRange_any _ _ _).mono ?_; rintro e w' ⟨rfl, rfl⟩)
      go_loop [6] (fun t => ∃ j : Nat, j ≤ D.pl k ∧ t = .int .i64 j) (fun t => D.pl k - (intOf t).toNat)
      case atStart => exact ⟨0, Nat.zero_le _, rfl⟩
      case round =>
        obtain ⟨j, hj, rfl⟩ := hrel
        by_cases hjl : j < D.pl k
        · rcases g5 with g5 | ⟨pb, po, rfl, _, hcl⟩
          · omega
          obtain ⟨q1, q2⟩ := hcl j hjl
          obtain ⟨i0, i1⟩ := hlits j hjl
          have hq := inR_mk i0 i1
          clear hcl i0 i1 hlits
          go_wp2_with (go_at_call 22; refine (inRange_any _ _ _).mono ?_; rintro e w' ⟨rfl, rfl⟩)
          go_round
          case rel => exact ⟨j + 1, by omega, by go_num⟩
          case measure => simp [intOf]; omega
        · clear g5 hlits
          go_wp2
          go_round
          case rel => exact ⟨k + 1, by omega, by go_num⟩
          case measure => simp [intOf]; omega
    · clear hr hp hin
      go_wp2
      go_ret
      exact ⟨rfl, rfl⟩

end Go.Proofs.Qxb6605479a
