/-
  Floats, plain: how words read, and that their order is that of natural numbers.
-/
import Derived.Test.Qxb6003619aFloatA
namespace Go.Proofs.Qxb6003619a
open Ieee

theorem d_binade : double.binade = 4503599627370496 := by decide
theorem d_inf : double.infRung = 9218868437227405312 := by decide
theorem d_sign : double.signWeight = 9223372036854775808 := by decide
theorem d_least : double.leastPlace = -1074 := by decide
theorem d_frac : double.fractionBits = 52 := rfl

theorem read_all (w : Nat) (h : w < 9218868437227405312) : ∃ m e : Nat, double.read w = .number false m (e - 1074) ∧ w = e * 4503599627370496 + m ∧ m < 9007199254740992 ∧ (0 < e → 4503599627370496 ≤ m) := by
  have hs : (w / 9223372036854775808 % 2 == 1) = false := by
    have : w / 9223372036854775808 = 0 := by omega
    rw [this]; rfl
  have hm : w % 9223372036854775808 = w := by omega
  unfold Format.read
  simp only [d_binade, d_inf, d_sign, d_least, hs, hm]
  by_cases hw : w < 4503599627370496
  · rw [if_pos hw]
    exact ⟨w, 0, by simp, by omega, by omega, by omega⟩
  · rw [if_neg hw, if_pos h]
    refine ⟨4503599627370496 + w % 4503599627370496, w / 4503599627370496 - 1, ?_, by omega, by omega, by omega⟩
    congr 1

theorem read_norm (E K : Nat) (hE : E ≤ 2045) (h1 : 4503599627370496 ≤ K) (h2 : K < 9007199254740992) : double.read (E * 4503599627370496 + K) = .number false K (E - 1074) := by
  obtain ⟨m, e, hr, hw, hm, he⟩ := read_all (E * 4503599627370496 + K) (by omega)
  rw [hr]
  have : e = E := by
    by_cases z : e = 0
    · omega
    · have := he (by omega)
      omega
  subst this
  have : m = K := by omega
  rw [this]

theorem read_zero : double.read 0 = .number false 0 (-1074) := by decide

theorem signed_false (m up : Nat) : signed false m up = ((m * 2 ^ up : Nat) : Int) := by simp [signed, Nat.shiftLeft_eq]

theorem val_mono {w1 w2 m1 e1 m2 e2 : Nat} (hlt : w1 < w2) (h1 : w1 = e1 * 4503599627370496 + m1) (b1 : m1 < 9007199254740992) (p1 : 0 < e1 → 4503599627370496 ≤ m1)
    (h2 : w2 = e2 * 4503599627370496 + m2) (b2 : m2 < 9007199254740992) (p2 : 0 < e2 → 4503599627370496 ≤ m2) : m1 * 2 ^ (e1 - min e1 e2) < m2 * 2 ^ (e2 - min e1 e2) := by
  rcases Nat.lt_trichotomy e1 e2 with h | h | h
  · have e : min e1 e2 = e1 := by omega
    rw [e, Nat.sub_self, Nat.pow_zero, Nat.mul_one]
    obtain ⟨k, hk⟩ : ∃ k, e2 - e1 = k + 1 := ⟨e2 - e1 - 1, by omega⟩
    rw [hk, Nat.pow_succ]
    have : 0 < 2 ^ k := Nat.two_pow_pos k
    have : m2 * 2 ≤ m2 * (2 ^ k * 2) := Nat.mul_le_mul_left m2 (by omega)
    have := p2 (by omega)
    omega
  · subst h
    simp
    omega
  · exfalso
    by_cases z : 0 < e1
    · have := p1 z
      omega
    · omega

theorem order_lt {a b : Nat} (h : a < b) (hb : b < 9218868437227405312) : double.order a b = some .lt ∧ double.order b a = some .gt := by
  obtain ⟨m1, e1, r1, w1, b1, p1⟩ := read_all a (by omega)
  obtain ⟨m2, e2, r2, w2, b2, p2⟩ := read_all b hb
  have hv := val_mono h w1 b1 p1 w2 b2 p2
  have i1 : ((e1 : Int) - 1074 - min ((e1 : Int) - 1074) ((e2 : Int) - 1074)).toNat = e1 - min e1 e2 := by omega
  have i2 : ((e2 : Int) - 1074 - min ((e1 : Int) - 1074) ((e2 : Int) - 1074)).toNat = e2 - min e1 e2 := by omega
  have i3 : ((e1 : Int) - 1074 - min ((e2 : Int) - 1074) ((e1 : Int) - 1074)).toNat = e1 - min e1 e2 := by omega
  have i4 : ((e2 : Int) - 1074 - min ((e2 : Int) - 1074) ((e1 : Int) - 1074)).toNat = e2 - min e1 e2 := by omega
  have hz : ((m1 * 2 ^ (e1 - min e1 e2) : Nat) : Int) < ((m2 * 2 ^ (e2 - min e1 e2) : Nat) : Int) := by exact_mod_cast hv
  constructor
  · unfold Format.order
    rw [r1, r2]
    simp only [Datum.order, signed_false, i1, i2]
    congr 1
    exact Int.compare_eq_lt.mpr hz
  · unfold Format.order
    rw [r1, r2]
    simp only [Datum.order, signed_false, i3, i4]
    congr 1
    exact Int.compare_eq_gt.mpr hz

theorem order_eq {a : Nat} (h : a < 9218868437227405312) : double.order a a = some .eq := by
  obtain ⟨m1, e1, r1, w1, b1, p1⟩ := read_all a h
  unfold Format.order
  rw [r1]
  simp [Datum.order]

/-! ### whole numbers -/
theorem log2_of {n k : Nat} (h1 : 2 ^ k ≤ n) (h2 : n < 2 ^ (k + 1)) : n.log2 = k := by
  have hn : n ≠ 0 := by have := Nat.two_pow_pos k; omega
  have a := (Nat.le_log2 hn).mpr h1
  have b := (Nat.log2_lt hn).mpr h2
  omega

end Go.Proofs.Qxb6003619a
