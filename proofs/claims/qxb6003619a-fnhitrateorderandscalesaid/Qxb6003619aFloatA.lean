/-
  Floats, plain: rounding as an inequality; the order of words; whole numbers read exactly.
-/
import Derived.Laws.FloatArith
namespace Go.Proofs.Qxb6003619a
open Ieee

/-! ### K is N / D to the nearest, ties to even -/
def IsR (N D K : Nat) : Prop :=
  2 * (K * D) ≤ 2 * N + D ∧ 2 * N ≤ 2 * (K * D) + D ∧ (2 * N = 2 * (K * D) + D → K % 2 = 0) ∧ (2 * N + D = 2 * (K * D) → K % 2 = 0)

theorem IsR.ratio {N1 D1 N2 D2 K : Nat} (h : IsR N1 D1 K) (p1 : 0 < D1) (p2 : 0 < D2) (e : N1 * D2 = N2 * D1) : IsR N2 D2 K := by
  obtain ⟨h1, h2, h3, h4⟩ := h
  have c1 : K * D2 * D1 = K * D1 * D2 := Nat.mul_right_comm _ _ _
  have c2 : D2 * D1 = D1 * D2 := Nat.mul_comm _ _
  refine ⟨?_, ?_, fun q => h3 ?_, fun q => h4 ?_⟩
  · refine Nat.le_of_mul_le_mul_right ?_ p1
    have h := Nat.mul_le_mul_right D2 h1
    simp only [Nat.add_mul, Nat.mul_assoc] at h c1 ⊢
    omega
  · refine Nat.le_of_mul_le_mul_right ?_ p1
    have h := Nat.mul_le_mul_right D2 h2
    simp only [Nat.add_mul, Nat.mul_assoc] at h c1 ⊢
    omega
  · refine Nat.eq_of_mul_eq_mul_right p2 ?_
    have h := congrArg (· * D1) q
    simp only [Nat.add_mul, Nat.mul_assoc] at h c1 ⊢
    omega
  · refine Nat.eq_of_mul_eq_mul_right p2 ?_
    have h := congrArg (· * D1) q
    simp only [Nat.add_mul, Nat.mul_assoc] at h c1 ⊢
    omega

theorem IsR.le {N D K K' : Nat} (h : IsR N D K) (hn : 2 * N < 2 * (K' * D) + D) : K ≤ K' := by
  obtain ⟨h1, -, -, -⟩ := h
  refine Nat.le_of_lt_succ (Nat.lt_of_mul_lt_mul_right (a := D) ?_)
  rw [Nat.succ_mul]
  omega

theorem IsR.mono {N1 N2 D K1 K2 : Nat} (p : 0 < D) (h1 : IsR N1 D K1) (h2 : IsR N2 D K2) (h : N1 ≤ N2) : K1 ≤ K2 := by
  obtain ⟨a1, a2, a3, a4⟩ := h1
  obtain ⟨b1, b2, b3, b4⟩ := h2
  refine Nat.le_of_not_lt fun hlt => ?_
  have m : (K2 + 1) * D ≤ K1 * D := Nat.mul_le_mul_right D hlt
  rw [Nat.succ_mul] at m
  have e : K1 * D = (K2 + 1) * D := by rw [Nat.succ_mul]; omega
  have e' := Nat.eq_of_mul_eq_mul_right p e
  have q1 := a4 (by rw [Nat.succ_mul] at e; omega)
  have q2 := b3 (by rw [Nat.succ_mul] at e; omega)
  omega

theorem IsR.mono' {N1 N2 D1 D2 K1 K2 : Nat} (p1 : 0 < D1) (p2 : 0 < D2) (h1 : IsR N1 D1 K1) (h2 : IsR N2 D2 K2) (h : N1 * D2 ≤ N2 * D1) : K1 ≤ K2 := by
  have q1 : IsR (N1 * D2) (D1 * D2) K1 := h1.ratio p1 (Nat.mul_pos p1 p2) (by rw [Nat.mul_assoc, Nat.mul_comm D1])
  have q2 : IsR (N2 * D1) (D1 * D2) K2 := h2.ratio p2 (Nat.mul_pos p1 p2) (by rw [Nat.mul_assoc])
  exact q1.mono (Nat.mul_pos p1 p2) q2 h

/-! ### what is cut off with a sticky digit is rounded as the quotient would be -/
theorem cut2_core (l c st d r N K : Nat) (hr : r < d) (hst : st = 0 ∧ r = 0 ∨ st = 1 ∧ 0 < r) (hN : N = (2 * l + c) * d + r)
    (hK : K = l ∧ (c = 0 ∨ (c = 1 ∧ st = 0 ∧ l % 2 = 0)) ∨ K = l + 1 ∧ c = 1 ∧ (st = 1 ∨ l % 2 = 1)) : IsR N (2 * d) K := by
  have e1 : l * (2 * d) = 2 * (l * d) := Nat.mul_left_comm _ _ _
  have e2 : (l + 1) * (2 * d) = 2 * (l * d) + 2 * d := by rw [Nat.succ_mul, e1]
  have e3 : (2 * l + c) * d = 2 * (l * d) + c * d := by rw [Nat.add_mul, Nat.mul_assoc]
  rw [e3] at hN
  rcases hK with ⟨hk, rfl | ⟨rfl, hs, hl⟩⟩ | ⟨hk, rfl, hs⟩
  all_goals
    unfold IsR
    rw [hk]
    first | rw [e1] | rw [e2]
    rw [hN]
    generalize l * d = t at *
    refine ⟨by omega, by omega, fun h => by omega, fun h => by omega⟩

theorem cut3_core (l c st d r N K : Nat) (hr : r < d) (hst : st = 0 ∧ r = 0 ∨ st = 1 ∧ 0 < r) (hN : N = (4 * l + c) * d + r)
    (hK : K = l ∧ (c = 0 ∨ c = 1 ∨ (c = 2 ∧ st = 0 ∧ l % 2 = 0)) ∨ K = l + 1 ∧ (c = 3 ∨ (c = 2 ∧ (st = 1 ∨ l % 2 = 1)))) : IsR N (4 * d) K := by
  have e1 : l * (4 * d) = 4 * (l * d) := Nat.mul_left_comm _ _ _
  have e2 : (l + 1) * (4 * d) = 4 * (l * d) + 4 * d := by rw [Nat.succ_mul, e1]
  have e3 : (4 * l + c) * d = 4 * (l * d) + c * d := by rw [Nat.add_mul, Nat.mul_assoc]
  rw [e3] at hN
  rcases hK with ⟨hk, rfl | rfl | ⟨rfl, hs, hl⟩⟩ | ⟨hk, rfl | ⟨rfl, hs⟩⟩
  all_goals
    unfold IsR
    rw [hk]
    first | rw [e1] | rw [e2]
    rw [hN]
    generalize l * d = t at *
    refine ⟨by omega, by omega, fun h => by omega, fun h => by omega⟩

theorem cut_eq (n drop : Nat) (h : drop ≤ n.log2 + 2) : Toward.even.cut false n drop = n / 2 ^ drop + (decide (2 ^ drop < 2 * (n % 2 ^ drop)) || (2 ^ drop == 2 * (n % 2 ^ drop) && n / 2 ^ drop % 2 == 1)).toNat := by
  simp [Toward.cut, Nat.min_eq_left h, Nat.one_shiftLeft]

theorem toNat_b (b : Bool) : b.toNat = 0 ∧ b = false ∨ b.toNat = 1 ∧ b = true := by cases b <;> simp

theorem cut2 (N d : Nat) (hd : 0 < d) : IsR N (2 * d) (Toward.even.cut false (2 * (N / d) + (N % d != 0).toNat) 2) := by
  have hN := Nat.div_add_mod N d
  have hr := Nat.mod_lt N hd
  rw [cut_eq _ _ (by omega)]
  obtain ⟨st, hst, hs⟩ : ∃ st, (N % d != 0).toNat = st ∧ (st = 0 ∧ N % d = 0 ∨ st = 1 ∧ 0 < N % d) := by
    rcases toNat_b (N % d != 0) with ⟨a, b⟩ | ⟨a, b⟩
    · exact ⟨0, a, .inl ⟨rfl, by simpa using b⟩⟩
    · exact ⟨1, a, .inr ⟨rfl, by simp at b; omega⟩⟩
  rw [hst]
  generalize N / d = q at *
  generalize N % d = r at *
  refine cut2_core (q / 2) (q % 2) st d r N _ hr hs (by rw [show 2 * (q / 2) + q % 2 = q by omega, Nat.mul_comm]; omega) ?_
  have e1 : (2 * q + st) / 2 ^ 2 = q / 2 := by omega
  have e2 : (2 * q + st) % 2 ^ 2 = 2 * (q % 2) + st := by omega
  rw [e1, e2]
  rcases toNat_b (decide (2 ^ 2 < 2 * (2 * (q % 2) + st)) || (2 ^ 2 == 2 * (2 * (q % 2) + st) && q / 2 % 2 == 1)) with ⟨a, b⟩ | ⟨a, b⟩
  all_goals
    rw [a]
    simp at b
    omega

theorem cut3 (N d : Nat) (hd : 0 < d) (h1 : 3 ≤ (2 * (N / d) + (N % d != 0).toNat).log2 + 2) : IsR N (4 * d) (Toward.even.cut false (2 * (N / d) + (N % d != 0).toNat) 3) := by
  have hN := Nat.div_add_mod N d
  have hr := Nat.mod_lt N hd
  rw [cut_eq _ _ h1]
  obtain ⟨st, hst, hs⟩ : ∃ st, (N % d != 0).toNat = st ∧ (st = 0 ∧ N % d = 0 ∨ st = 1 ∧ 0 < N % d) := by
    rcases toNat_b (N % d != 0) with ⟨a, b⟩ | ⟨a, b⟩
    · exact ⟨0, a, .inl ⟨rfl, by simpa using b⟩⟩
    · exact ⟨1, a, .inr ⟨rfl, by simp at b; omega⟩⟩
  rw [hst]
  clear h1
  generalize N / d = q at *
  generalize N % d = r at *
  refine cut3_core (q / 4) (q % 4) st d r N _ hr hs (by rw [show 4 * (q / 4) + q % 4 = q by omega, Nat.mul_comm]; omega) ?_
  have e1 : (2 * q + st) / 2 ^ 3 = q / 4 := by omega
  have e2 : (2 * q + st) % 2 ^ 3 = 2 * (q % 4) + st := by omega
  rw [e1, e2]
  rcases toNat_b (decide (2 ^ 3 < 2 * (2 * (q % 4) + st)) || (2 ^ 3 == 2 * (2 * (q % 4) + st) && q / 4 % 2 == 1)) with ⟨a, b⟩ | ⟨a, b⟩
  all_goals
    rw [a]
    simp at b
    omega

end Go.Proofs.Qxb6003619a
