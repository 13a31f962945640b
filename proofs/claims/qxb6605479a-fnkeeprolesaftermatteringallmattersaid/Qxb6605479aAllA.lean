/-
  FnKeepRolesAfterMatteringAllMatter: the guards' ways out, and what its walk carries along.
-/
import Derived.Test.Qxb6605479aKMem
namespace Go.Proofs.Qxb6605479a
open Go.RowKit

/-- The seven lists of the law, as they lie in the world w. -/
def Seven (w0 w : World) (a0 a1 a2 a3 a4 a6 a7 : Option Addr) (n0 n1 n2 n3 n7 : Nat) (s0 s1 : Nat → ByteArray) (f2 g2 f3 g3 f7 g7 : Nat → Int) (D4 D6 : Rules) : Prop :=
  StrsAt w.heap.size w a0 n0 s0 ∧ StrsAt w.heap.size w a1 n1 s1 ∧ PairsAt w.heap.size w a2 n2 f2 g2 ∧ PairsAt w.heap.size w a3 n3 f3 g3 ∧ CAat w.heap.size w a4 D4 ∧ CAat w.heap.size w a6 D6 ∧ PairsAt w.heap.size w a7 n7 f7 g7 ∧ Below w0.heap.size w0 w

theorem Seven.below {w0 w w' : World} {a0 a1 a2 a3 a4 a6 a7 : Option Addr} {n0 n1 n2 n3 n7 : Nat} {s0 s1 : Nat → ByteArray} {f2 g2 f3 g3 f7 g7 : Nat → Int} {D4 D6 : Rules} (h : Seven w0 w a0 a1 a2 a3 a4 a6 a7 n0 n1 n2 n3 n7 s0 s1 f2 g2 f3 g3 f7 g7 D4 D6) (hb : Below w.heap.size w w') :
    Seven w0 w' a0 a1 a2 a3 a4 a6 a7 n0 n1 n2 n3 n7 s0 s1 f2 g2 f3 g3 f7 g7 D4 D6 :=
  ⟨h.1.below hb hb.size, h.2.1.below hb hb.size, h.2.2.1.below hb hb.size, h.2.2.2.1.below hb hb.size, h.2.2.2.2.1.below hb hb.size, h.2.2.2.2.2.1.below hb hb.size, h.2.2.2.2.2.2.1.below hb hb.size, h.2.2.2.2.2.2.2.trans (hb.mono h.2.2.2.2.2.2.2.size)⟩

def Nil (a : Option Addr) (n c : Nat) : Prop := a = none → n = 0 ∧ c = 0

set_option maxRecDepth 100000 in
set_option maxHeartbeats 2000000 in
theorem all_early (a0 a1 a2 a3 a4 a6 a7 : Option Addr) (n0 c0 n1 c1 n2 c2 n3 c3 c4 : Nat) (goal : Int) (c6 n7 c7 : Nat) (s0 s1 : Nat → ByteArray) (D4 D6 : Rules) (w : World)
    (m0 : n0 ≤ maxLen) (m1 : n1 ≤ maxLen) (m2 : n2 ≤ maxLen) (m3 : n3 ≤ maxLen) (m4 : D4.n ≤ maxLen) (m6 : D6.n ≤ maxLen) (m7 : n7 ≤ maxLen)
    (h0 : StrsAt w.heap.size w a0 n0 s0) (h1 : StrsAt w.heap.size w a1 n1 s1) (h4 : CAat w.heap.size w a4 D4) (h6 : CAat w.heap.size w a6 D6)
    (h : 65536 < n0 ∨ (n0 ≤ 65536 ∧ 65536 < n1) ∨ (n0 ≤ 65536 ∧ n1 ≤ 65536 ∧ 65536 < n2) ∨ (n0 ≤ 65536 ∧ n1 ≤ 65536 ∧ n2 ≤ 65536 ∧ 65536 < n3) ∨ (n0 ≤ 65536 ∧ n1 ≤ 65536 ∧ n2 ≤ 65536 ∧ n3 ≤ 65536 ∧ 65536 < D4.n) ∨
      (n0 ≤ 65536 ∧ n1 ≤ 65536 ∧ n2 ≤ 65536 ∧ n3 ≤ 65536 ∧ D4.n ≤ 65536 ∧ 65536 < D6.n) ∨ (n0 ≤ 65536 ∧ n1 ≤ 65536 ∧ n2 ≤ 65536 ∧ n3 ≤ 65536 ∧ D4.n ≤ 65536 ∧ D6.n ≤ 65536 ∧ 65536 < n7)) :
    Calls Try.prog 8 #[.slice a0 n0 c0, .slice a1 n1 c1, .slice a2 n2 c2, .slice a3 n3 c3, .slice a4 D4.n c4, .int .i64 goal, .slice a6 D6.n c6, .slice a7 n7 c7] w fun e w' => e = .returned (.bool true) ∧ Below w.heap.size w w' := by
  have H := hid (And.intro h0 (And.intro h1 (And.intro h4 h6)))
  clear h0 h1 h4 h6
  unfold maxLen at m0 m1 m2 m3 m4 m6 m7
  rcases h with h | ⟨h, h'⟩ | ⟨h, h', h2⟩ | ⟨h, h', h2, h3⟩ | ⟨h, h', h2, h3, h4⟩ | ⟨h, h', h2, h3, h4, h5⟩ | ⟨h, h', h2, h3, h4, h5, h6⟩
  all_goals
    go_enter Try.func8, Try.ntmps8
    go_wp2_with (go_at_call 38; refine (bytes38_any _ _ _ _ _ _ _ _ _ _ _ _ _ _ _ _ _ _ _ _ D4 D6 s0 s1 _ H.out.1 H.out.2.1 H.out.2.2.1 H.out.2.2.2).mono ?_; rintro e w' ⟨⟨b, rfl⟩, rfl⟩; cases b)
    all_goals
      go_ret
      exact ⟨rfl, Below.refl _ _⟩

end Go.Proofs.Qxb6605479a
