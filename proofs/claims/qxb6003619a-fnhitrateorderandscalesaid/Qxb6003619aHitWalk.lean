/-
  The walk of FnHitRateOrderAndScale: one walk for each way that the counts can stand to each other. (Typed by gen_hit.py.)
-/
import Derived.Test.Qxb6003619aHitBase
namespace Go.Proofs.Qxb6003619a
open Go.RowKit

set_option linter.unusedVariables false in
set_option maxRecDepth 100000 in
set_option maxHeartbeats 1000000 in
theorem hit_zero (h m k r p H M H1 : Nat) (a2 a3 a4 : Int) (a5 : Int) (op : Ordering) (w : World) (hh : h ≤ 1099511627776) (hm : m ≤ 1099511627776) (k1 : 1 ≤ k) (k2 : k ≤ 4096)
    (tr : rt h m = r) (ts : rt H M = r) (tp : rt H1 m = p) (hs1 : h + m ≤ 9007199254740992) (hsum : H + M ≤ 9007199254740992) (hs3 : H1 + m ≤ 9007199254740992)
    (w1 : IntKind.u64.wrap ((k : Int) * (h : Int)) = (H : Int)) (w2 : IntKind.u64.wrap ((k : Int) * (m : Int)) = (M : Int)) (w3 : (h : Int) + 1 = (H1 : Int))
    (t1 : FloatKind.f64.format.order r r = some .eq) (t2 : FloatKind.f64.format.order r 0 = some .eq) 
    (t5 : FloatKind.f64.format.order p r = some op) (hop : op = .gt ∨ op = .eq) (c0 : ((h : Int) == 0) = true) (c1 : ((m : Int) == 0) = true)  :
    Calls Try.prog 4 #[.int .u64 (h : Int), .int .u64 (m : Int), .int .u64 a2, .int .u64 a3, .int .u64 a4, .int .i64 a5, .int .u64 (k : Int)] w fun e w' => e = .returned (.bool true) ∧ Below w.heap.size w w' := by
  have HP := hid' hop
  clear hop
  go_enter Try.func4, Try.ntmps4
  go_wp2_with fail
  refine (hit9_any _ _ _ _ _ _ _ hs1).mono ?_
  rintro e w1 ⟨rfl, g1⟩
  rw [tr]
  have G1 : Below w.heap.size w w1 := ((Below.refl _ _).alloc (Nat.le_refl _) _).trans (g1.mono (by simp))
  clear g1
  go_wp2_with fail
  refine (hit9_any _ _ _ _ _ _ _ hs1).mono ?_
  rintro e w2 ⟨rfl, g2⟩
  rw [tr]
  have G2 : Below w.heap.size w w2 := (G1.alloc G1.size _).trans (g2.mono (by have := G1.size; simp; omega))
  clear g2 G1
  go_wp2_with fail
  refine (hit9_any _ _ _ _ _ _ _ hsum).mono ?_
  rintro e w3 ⟨rfl, g3⟩
  rw [ts]
  have G3 : Below w.heap.size w w3 := (G2.alloc G2.size _).trans (g3.mono (by have := G2.size; simp; omega))
  clear g3 G2
  go_wp2_with fail
  refine (hit9_any _ _ _ _ _ _ _ hs3).mono ?_
  rintro e w4 ⟨rfl, g4⟩
  rw [tp]
  have G4 : Below w.heap.size w w4 := (G3.alloc G3.size _).trans (g4.mono (by have := G3.size; simp; omega))
  clear g4 G3
  rcases HP.out with rfl | rfl
  all_goals
    go_wp2
    go_ret
    exact ⟨rfl, G4⟩

set_option linter.unusedVariables false in
set_option maxRecDepth 100000 in
set_option maxHeartbeats 1000000 in
theorem hit_none (h m k r p H M H1 : Nat) (a2 a3 a4 : Int) (a5 : Int) (op : Ordering) (w : World) (hh : h ≤ 1099511627776) (hm : m ≤ 1099511627776) (k1 : 1 ≤ k) (k2 : k ≤ 4096)
    (tr : rt h m = r) (ts : rt H M = r) (tp : rt H1 m = p) (hs1 : h + m ≤ 9007199254740992) (hsum : H + M ≤ 9007199254740992) (hs3 : H1 + m ≤ 9007199254740992)
    (w1 : IntKind.u64.wrap ((k : Int) * (h : Int)) = (H : Int)) (w2 : IntKind.u64.wrap ((k : Int) * (m : Int)) = (M : Int)) (w3 : (h : Int) + 1 = (H1 : Int))
    (t1 : FloatKind.f64.format.order r r = some .eq) (t2 : FloatKind.f64.format.order r 0 = some .eq) (t3 : FloatKind.f64.format.order r 4607182418800017408 = some .lt) (t4 : FloatKind.f64.format.order r 4602678819172646912 = some .lt)
    (t5 : FloatKind.f64.format.order p r = some op) (hop : op = .gt ∨ op = .eq) (c0 : ((h : Int) == 0) = true) (c1 : ((m : Int) == 0) = false) (c2 : ((h : Int) == (m : Int)) = false) (v3 : (h : Int) < (m : Int)) :
    Calls Try.prog 4 #[.int .u64 (h : Int), .int .u64 (m : Int), .int .u64 a2, .int .u64 a3, .int .u64 a4, .int .i64 a5, .int .u64 (k : Int)] w fun e w' => e = .returned (.bool true) ∧ Below w.heap.size w w' := by
  have HP := hid' hop
  clear hop
  go_enter Try.func4, Try.ntmps4
  go_wp2_with fail
  refine (hit9_any _ _ _ _ _ _ _ hs1).mono ?_
  rintro e w1 ⟨rfl, g1⟩
  rw [tr]
  have G1 : Below w.heap.size w w1 := ((Below.refl _ _).alloc (Nat.le_refl _) _).trans (g1.mono (by simp))
  clear g1
  go_wp2_with fail
  refine (hit9_any _ _ _ _ _ _ _ hs1).mono ?_
  rintro e w2 ⟨rfl, g2⟩
  rw [tr]
  have G2 : Below w.heap.size w w2 := (G1.alloc G1.size _).trans (g2.mono (by have := G1.size; simp; omega))
  clear g2 G1
  go_wp2_with fail
  refine (hit9_any _ _ _ _ _ _ _ hsum).mono ?_
  rintro e w3 ⟨rfl, g3⟩
  rw [ts]
  have G3 : Below w.heap.size w w3 := (G2.alloc G2.size _).trans (g3.mono (by have := G2.size; simp; omega))
  clear g3 G2
  go_wp2_with fail
  refine (hit9_any _ _ _ _ _ _ _ hs3).mono ?_
  rintro e w4 ⟨rfl, g4⟩
  rw [tp]
  have G4 : Below w.heap.size w w4 := (G3.alloc G3.size _).trans (g4.mono (by have := G3.size; simp; omega))
  clear g4 G3
  rcases HP.out with rfl | rfl
  all_goals
    go_wp2
    go_ret
    exact ⟨rfl, G4⟩

set_option linter.unusedVariables false in
set_option maxRecDepth 100000 in
set_option maxHeartbeats 1000000 in
theorem hit_all (h m k r p H M H1 : Nat) (a2 a3 a4 : Int) (a5 : Int) (op : Ordering) (w : World) (hh : h ≤ 1099511627776) (hm : m ≤ 1099511627776) (k1 : 1 ≤ k) (k2 : k ≤ 4096)
    (tr : rt h m = r) (ts : rt H M = r) (tp : rt H1 m = p) (hs1 : h + m ≤ 9007199254740992) (hsum : H + M ≤ 9007199254740992) (hs3 : H1 + m ≤ 9007199254740992)
    (w1 : IntKind.u64.wrap ((k : Int) * (h : Int)) = (H : Int)) (w2 : IntKind.u64.wrap ((k : Int) * (m : Int)) = (M : Int)) (w3 : (h : Int) + 1 = (H1 : Int))
    (t1 : FloatKind.f64.format.order r r = some .eq) (t2 : FloatKind.f64.format.order r 0 = some .gt) (t3 : FloatKind.f64.format.order r 4607182418800017408 = some .eq) (t4 : FloatKind.f64.format.order r 4602678819172646912 = some .gt)
    (t5 : FloatKind.f64.format.order p r = some op) (hop : op = .gt ∨ op = .eq) (c0 : ((h : Int) == 0) = false) (c1 : ((m : Int) == 0) = true) (c2 : ((h : Int) == (m : Int)) = false) (v3 : ¬ (h : Int) < (m : Int)) :
    Calls Try.prog 4 #[.int .u64 (h : Int), .int .u64 (m : Int), .int .u64 a2, .int .u64 a3, .int .u64 a4, .int .i64 a5, .int .u64 (k : Int)] w fun e w' => e = .returned (.bool true) ∧ Below w.heap.size w w' := by
  have HP := hid' hop
  clear hop
  go_enter Try.func4, Try.ntmps4
  go_wp2_with fail
  refine (hit9_any _ _ _ _ _ _ _ hs1).mono ?_
  rintro e w1 ⟨rfl, g1⟩
  rw [tr]
  have G1 : Below w.heap.size w w1 := ((Below.refl _ _).alloc (Nat.le_refl _) _).trans (g1.mono (by simp))
  clear g1
  go_wp2_with fail
  refine (hit9_any _ _ _ _ _ _ _ hs1).mono ?_
  rintro e w2 ⟨rfl, g2⟩
  rw [tr]
  have G2 : Below w.heap.size w w2 := (G1.alloc G1.size _).trans (g2.mono (by have := G1.size; simp; omega))
  clear g2 G1
  go_wp2_with fail
  refine (hit9_any _ _ _ _ _ _ _ hsum).mono ?_
  rintro e w3 ⟨rfl, g3⟩
  rw [ts]
  have G3 : Below w.heap.size w w3 := (G2.alloc G2.size _).trans (g3.mono (by have := G2.size; simp; omega))
  clear g3 G2
  go_wp2_with fail
  refine (hit9_any _ _ _ _ _ _ _ hs3).mono ?_
  rintro e w4 ⟨rfl, g4⟩
  rw [tp]
  have G4 : Below w.heap.size w w4 := (G3.alloc G3.size _).trans (g4.mono (by have := G3.size; simp; omega))
  clear g4 G3
  rcases HP.out with rfl | rfl
  all_goals
    go_wp2
    go_ret
    exact ⟨rfl, G4⟩

set_option linter.unusedVariables false in
set_option maxRecDepth 100000 in
set_option maxHeartbeats 1000000 in
theorem hit_low (h m k r p H M H1 : Nat) (a2 a3 a4 : Int) (a5 : Int) (op : Ordering) (w : World) (hh : h ≤ 1099511627776) (hm : m ≤ 1099511627776) (k1 : 1 ≤ k) (k2 : k ≤ 4096)
    (tr : rt h m = r) (ts : rt H M = r) (tp : rt H1 m = p) (hs1 : h + m ≤ 9007199254740992) (hsum : H + M ≤ 9007199254740992) (hs3 : H1 + m ≤ 9007199254740992)
    (w1 : IntKind.u64.wrap ((k : Int) * (h : Int)) = (H : Int)) (w2 : IntKind.u64.wrap ((k : Int) * (m : Int)) = (M : Int)) (w3 : (h : Int) + 1 = (H1 : Int))
    (t1 : FloatKind.f64.format.order r r = some .eq) (t2 : FloatKind.f64.format.order r 0 = some .gt) (t3 : FloatKind.f64.format.order r 4607182418800017408 = some .lt) (t4 : FloatKind.f64.format.order r 4602678819172646912 = some .lt)
    (t5 : FloatKind.f64.format.order p r = some op) (hop : op = .gt ∨ op = .eq) (c0 : ((h : Int) == 0) = false) (c1 : ((m : Int) == 0) = false) (c2 : ((h : Int) == (m : Int)) = false) (v3 : (h : Int) < (m : Int)) :
    Calls Try.prog 4 #[.int .u64 (h : Int), .int .u64 (m : Int), .int .u64 a2, .int .u64 a3, .int .u64 a4, .int .i64 a5, .int .u64 (k : Int)] w fun e w' => e = .returned (.bool true) ∧ Below w.heap.size w w' := by
  have HP := hid' hop
  clear hop
  go_enter Try.func4, Try.ntmps4
  go_wp2_with fail
  refine (hit9_any _ _ _ _ _ _ _ hs1).mono ?_
  rintro e w1 ⟨rfl, g1⟩
  rw [tr]
  have G1 : Below w.heap.size w w1 := ((Below.refl _ _).alloc (Nat.le_refl _) _).trans (g1.mono (by simp))
  clear g1
  go_wp2_with fail
  refine (hit9_any _ _ _ _ _ _ _ hs1).mono ?_
  rintro e w2 ⟨rfl, g2⟩
  rw [tr]
  have G2 : Below w.heap.size w w2 := (G1.alloc G1.size _).trans (g2.mono (by have := G1.size; simp; omega))
  clear g2 G1
  go_wp2_with fail
  refine (hit9_any _ _ _ _ _ _ _ hsum).mono ?_
  rintro e w3 ⟨rfl, g3⟩
  rw [ts]
  have G3 : Below w.heap.size w w3 := (G2.alloc G2.size _).trans (g3.mono (by have := G2.size; simp; omega))
  clear g3 G2
  go_wp2_with fail
  refine (hit9_any _ _ _ _ _ _ _ hs3).mono ?_
  rintro e w4 ⟨rfl, g4⟩
  rw [tp]
  have G4 : Below w.heap.size w w4 := (G3.alloc G3.size _).trans (g4.mono (by have := G3.size; simp; omega))
  clear g4 G3
  rcases HP.out with rfl | rfl
  all_goals
    go_wp2
    go_ret
    exact ⟨rfl, G4⟩

set_option linter.unusedVariables false in
set_option maxRecDepth 100000 in
set_option maxHeartbeats 1000000 in
theorem hit_mid (h m k r p H M H1 : Nat) (a2 a3 a4 : Int) (a5 : Int) (op : Ordering) (w : World) (hh : h ≤ 1099511627776) (hm : m ≤ 1099511627776) (k1 : 1 ≤ k) (k2 : k ≤ 4096)
    (tr : rt h m = r) (ts : rt H M = r) (tp : rt H1 m = p) (hs1 : h + m ≤ 9007199254740992) (hsum : H + M ≤ 9007199254740992) (hs3 : H1 + m ≤ 9007199254740992)
    (w1 : IntKind.u64.wrap ((k : Int) * (h : Int)) = (H : Int)) (w2 : IntKind.u64.wrap ((k : Int) * (m : Int)) = (M : Int)) (w3 : (h : Int) + 1 = (H1 : Int))
    (t1 : FloatKind.f64.format.order r r = some .eq) (t2 : FloatKind.f64.format.order r 0 = some .gt) (t3 : FloatKind.f64.format.order r 4607182418800017408 = some .lt) (t4 : FloatKind.f64.format.order r 4602678819172646912 = some .eq)
    (t5 : FloatKind.f64.format.order p r = some op) (hop : op = .gt ∨ op = .eq) (c0 : ((h : Int) == 0) = false) (c1 : ((m : Int) == 0) = false) (c2 : ((h : Int) == (m : Int)) = true) (v3 : ¬ (h : Int) < (m : Int)) :
    Calls Try.prog 4 #[.int .u64 (h : Int), .int .u64 (m : Int), .int .u64 a2, .int .u64 a3, .int .u64 a4, .int .i64 a5, .int .u64 (k : Int)] w fun e w' => e = .returned (.bool true) ∧ Below w.heap.size w w' := by
  have HP := hid' hop
  clear hop
  go_enter Try.func4, Try.ntmps4
  go_wp2_with fail
  refine (hit9_any _ _ _ _ _ _ _ hs1).mono ?_
  rintro e w1 ⟨rfl, g1⟩
  rw [tr]
  have G1 : Below w.heap.size w w1 := ((Below.refl _ _).alloc (Nat.le_refl _) _).trans (g1.mono (by simp))
  clear g1
  go_wp2_with fail
  refine (hit9_any _ _ _ _ _ _ _ hs1).mono ?_
  rintro e w2 ⟨rfl, g2⟩
  rw [tr]
  have G2 : Below w.heap.size w w2 := (G1.alloc G1.size _).trans (g2.mono (by have := G1.size; simp; omega))
  clear g2 G1
  go_wp2_with fail
  refine (hit9_any _ _ _ _ _ _ _ hsum).mono ?_
  rintro e w3 ⟨rfl, g3⟩
  rw [ts]
  have G3 : Below w.heap.size w w3 := (G2.alloc G2.size _).trans (g3.mono (by have := G2.size; simp; omega))
  clear g3 G2
  go_wp2_with fail
  refine (hit9_any _ _ _ _ _ _ _ hs3).mono ?_
  rintro e w4 ⟨rfl, g4⟩
  rw [tp]
  have G4 : Below w.heap.size w w4 := (G3.alloc G3.size _).trans (g4.mono (by have := G3.size; simp; omega))
  clear g4 G3
  rcases HP.out with rfl | rfl
  all_goals
    go_wp2
    go_ret
    exact ⟨rfl, G4⟩

set_option linter.unusedVariables false in
set_option maxRecDepth 100000 in
set_option maxHeartbeats 1000000 in
theorem hit_high (h m k r p H M H1 : Nat) (a2 a3 a4 : Int) (a5 : Int) (op : Ordering) (w : World) (hh : h ≤ 1099511627776) (hm : m ≤ 1099511627776) (k1 : 1 ≤ k) (k2 : k ≤ 4096)
    (tr : rt h m = r) (ts : rt H M = r) (tp : rt H1 m = p) (hs1 : h + m ≤ 9007199254740992) (hsum : H + M ≤ 9007199254740992) (hs3 : H1 + m ≤ 9007199254740992)
    (w1 : IntKind.u64.wrap ((k : Int) * (h : Int)) = (H : Int)) (w2 : IntKind.u64.wrap ((k : Int) * (m : Int)) = (M : Int)) (w3 : (h : Int) + 1 = (H1 : Int))
    (t1 : FloatKind.f64.format.order r r = some .eq) (t2 : FloatKind.f64.format.order r 0 = some .gt) (t3 : FloatKind.f64.format.order r 4607182418800017408 = some .lt) (t4 : FloatKind.f64.format.order r 4602678819172646912 = some .gt)
    (t5 : FloatKind.f64.format.order p r = some op) (hop : op = .gt ∨ op = .eq) (c0 : ((h : Int) == 0) = false) (c1 : ((m : Int) == 0) = false) (c2 : ((h : Int) == (m : Int)) = false) (v3 : ¬ (h : Int) < (m : Int)) :
    Calls Try.prog 4 #[.int .u64 (h : Int), .int .u64 (m : Int), .int .u64 a2, .int .u64 a3, .int .u64 a4, .int .i64 a5, .int .u64 (k : Int)] w fun e w' => e = .returned (.bool true) ∧ Below w.heap.size w w' := by
  have HP := hid' hop
  clear hop
  go_enter Try.func4, Try.ntmps4
  go_wp2_with fail
  refine (hit9_any _ _ _ _ _ _ _ hs1).mono ?_
  rintro e w1 ⟨rfl, g1⟩
  rw [tr]
  have G1 : Below w.heap.size w w1 := ((Below.refl _ _).alloc (Nat.le_refl _) _).trans (g1.mono (by simp))
  clear g1
  go_wp2_with fail
  refine (hit9_any _ _ _ _ _ _ _ hs1).mono ?_
  rintro e w2 ⟨rfl, g2⟩
  rw [tr]
  have G2 : Below w.heap.size w w2 := (G1.alloc G1.size _).trans (g2.mono (by have := G1.size; simp; omega))
  clear g2 G1
  go_wp2_with fail
  refine (hit9_any _ _ _ _ _ _ _ hsum).mono ?_
  rintro e w3 ⟨rfl, g3⟩
  rw [ts]
  have G3 : Below w.heap.size w w3 := (G2.alloc G2.size _).trans (g3.mono (by have := G2.size; simp; omega))
  clear g3 G2
  go_wp2_with fail
  refine (hit9_any _ _ _ _ _ _ _ hs3).mono ?_
  rintro e w4 ⟨rfl, g4⟩
  rw [tp]
  have G4 : Below w.heap.size w w4 := (G3.alloc G3.size _).trans (g4.mono (by have := G3.size; simp; omega))
  clear g4 G3
  rcases HP.out with rfl | rfl
  all_goals
    go_wp2
    go_ret
    exact ⟨rfl, G4⟩

end Go.Proofs.Qxb6003619a
