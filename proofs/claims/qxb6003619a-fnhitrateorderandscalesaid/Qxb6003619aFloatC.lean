/-
  Floats, plain: whole numbers up to 2^53 are written exactly, and added exactly.
-/
import Derived.Test.Qxb6003619aFloatB
namespace Go.Proofs.Qxb6003619a
open Ieee

/-- The significand of a whole number. -/
def nrm (n : Nat) : Nat := n * 2 ^ 53 / 2 ^ (n.log2 + 1)

theorem log2_le53 {n : Nat} (h0 : 0 < n) (h : n ≤ 9007199254740992) : n.log2 ≤ 53 := by
  have := (Nat.log2_lt (n := n) (k := 54) (by omega)).mpr (by omega)
  omega

theorem log2_le52 {n : Nat} (h0 : 0 < n) (h : n < 9007199254740992) : n.log2 ≤ 52 := by
  have := (Nat.log2_lt (n := n) (k := 53) (by omega)).mpr (by omega)
  omega

theorem nrm_eq {n : Nat} (h0 : 0 < n) (h : n ≤ 9007199254740992) : nrm n * 2 ^ (n.log2 + 1) = n * 2 ^ 53 := by
  unfold nrm
  refine Nat.div_mul_cancel ?_
  by_cases e : n = 9007199254740992
  · subst e
    decide
  · have := log2_le52 h0 (by omega)
    refine Nat.dvd_mul_left_of_dvd ?_ n
    exact ⟨2 ^ (52 - n.log2), by
      rw [← Nat.pow_add, show n.log2 + 1 + (52 - n.log2) = 53 by omega]⟩

theorem nrm_le {n : Nat} (h0 : 0 < n) (h : n ≤ 9007199254740992) : 4503599627370496 ≤ nrm n := by
  have e := nrm_eq h0 h
  have l := Nat.log2_self_le (n := n) (by omega)
  refine Nat.le_of_mul_le_mul_right (c := 2 ^ (n.log2 + 1)) ?_ (Nat.two_pow_pos _)
  rw [e, Nat.pow_succ]
  omega

theorem nrm_lt {n : Nat} (h0 : 0 < n) (h : n ≤ 9007199254740992) : nrm n < 9007199254740992 := by
  have e := nrm_eq h0 h
  have l := Nat.lt_log2_self (n := n)
  refine Nat.lt_of_mul_lt_mul_right (a := 2 ^ (n.log2 + 1)) ?_
  rw [e, Nat.mul_comm]
  omega

/-- The word of a whole number. -/
def wd (n : Nat) : Nat := if n = 0 then 0 else (n.log2 + 1022) * 4503599627370496 + nrm n

theorem cut_exact (k drop : Nat) (h : drop ≤ (k * 2 ^ drop).log2 + 2) : Toward.even.cut false (k * 2 ^ drop) drop = k := by
  rw [cut_eq _ _ h]
  have : 0 < 2 ^ drop := Nat.two_pow_pos _
  simp [Nat.mul_div_cancel _ this]

theorem log2_mul_pow {s c : Nat} (h0 : 0 < s) : (s * 2 ^ c).log2 = s.log2 + c := by
  refine log2_of ?_ ?_
  · rw [Nat.pow_add]
    exact Nat.mul_le_mul_right _ (Nat.log2_self_le (by omega))
  · rw [show s.log2 + c + 1 = (s.log2 + 1) + c by omega, Nat.pow_add]
    exact Nat.mul_lt_mul_of_pos_right Nat.lt_log2_self (Nat.two_pow_pos _)

theorem cut_pow {s c S N : Nat} (h0 : 0 < s) (hS : S = s.log2) (hq : N * 2 ^ (S + 1) = s * 2 ^ 53) : Toward.even.cut false (s * 2 ^ c * 2 ^ (52 - (S + c))) ((S + c) - 52) = N := by
  by_cases hle : S + c ≤ 52
  · have e : s * 2 ^ c * 2 ^ (52 - (S + c)) = N := by
      refine Nat.eq_of_mul_eq_mul_right (Nat.two_pow_pos (S + 1)) ?_
      rw [hq, Nat.mul_assoc, Nat.mul_assoc, ← Nat.pow_add, ← Nat.pow_add]
      congr 2
      omega
    rw [e, show S + c - 52 = 0 by omega]
    have := cut_exact N 0 (by omega)
    rw [Nat.pow_zero, Nat.mul_one] at this
    exact this
  · have e : s * 2 ^ c * 2 ^ (52 - (S + c)) = N * 2 ^ (S + c - 52) := by
      rw [show 52 - (S + c) = 0 by omega, Nat.pow_zero, Nat.mul_one]
      refine Nat.eq_of_mul_eq_mul_right (Nat.two_pow_pos 53) ?_
      rw [Nat.mul_right_comm, ← hq, Nat.mul_assoc, ← Nat.pow_add, Nat.mul_assoc, ← Nat.pow_add]
      congr 2
      omega
    rw [e]
    refine cut_exact _ _ ?_
    rw [← e, show 52 - (S + c) = 0 by omega, Nat.pow_zero, Nat.mul_one, log2_mul_pow h0]
    omega

theorem word_pos (f : Format) (r : Nat) : f.word false r = r := by simp [Format.word]

theorem nearest_gen (f : Format) (n : Nat) (p : Int) (h : n ≠ 0) : f.nearest false n p =
    min ((max (p + n.log2 - f.fractionBits) f.leastPlace - f.leastPlace).toNat * f.binade + Toward.even.cut false (n * 2 ^ (p - max (p + n.log2 - f.fractionBits) f.leastPlace).toNat) (max (p + n.log2 - f.fractionBits) f.leastPlace - p).toNat) f.infRung := by
  unfold Format.nearest
  rw [if_neg h]
  simp only [Nat.shiftLeft_eq, word_pos]

theorem nearest_def (n : Nat) (p last : Int) (h : n ≠ 0) (hl : last = max (p + n.log2 - 52) (-1074)) : double.nearest false n p =
    min ((last + 1074).toNat * 4503599627370496 + Toward.even.cut false (n * 2 ^ (p - last).toNat) (last - p).toNat) 9218868437227405312 := by
  have e : max (p + n.log2 - double.fractionBits) double.leastPlace = last := by
    rw [d_least, hl]
    rfl
  have e2 : (last - double.leastPlace).toNat = (last + 1074).toNat := by rw [d_least]; omega
  rw [nearest_gen _ _ _ h, e, e2, d_binade, d_inf]

theorem last_pow (S c : Nat) (hS : S ≤ 53) : ((S : Int) - 52) = max (-(c : Int) + ((S + c : Nat) : Int) - 52) (-1074) ∧ (-(c : Int) - ((S : Int) - 52)).toNat = 52 - (S + c) ∧ ((S : Int) - 52 - -(c : Int)).toNat = (S + c) - 52 ∧ ((S : Int) - 52 + 1074).toNat = S + 1022 :=
  ⟨by omega, by omega, by omega, by omega⟩

theorem min_pow (S N : Nat) (hS : S ≤ 53) (hN : N < 9007199254740992) : min ((S + 1022) * 4503599627370496 + N) 9218868437227405312 = (S + 1022) * 4503599627370496 + N :=
  Nat.min_eq_left (by omega)

theorem nearest_pow {s c : Nat} (h0 : 0 < s) (h : s ≤ 9007199254740992) : double.nearest false (s * 2 ^ c) (-(c : Int)) = wd s := by
  have hS := log2_le53 h0 h
  have hp : s * 2 ^ c ≠ 0 := Nat.mul_ne_zero (Nat.ne_of_gt h0) (Nat.ne_of_gt (Nat.two_pow_pos _))
  obtain ⟨e1, e2, e3, e4⟩ := last_pow s.log2 c hS
  rw [← log2_mul_pow h0] at e1
  rw [nearest_def _ _ _ hp e1, e2, e3, e4, cut_pow h0 rfl (nrm_eq h0 h), min_pow _ _ hS (nrm_lt h0 h)]
  unfold wd
  rw [if_neg (Nat.ne_of_gt h0)]


end Go.Proofs.Qxb6003619a
