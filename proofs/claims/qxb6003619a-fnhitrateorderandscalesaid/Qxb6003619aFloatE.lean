/-
  Floats, plain: the quotient of whole numbers, and that it keeps the order of the ratios.
-/
import Derived.Test.Qxb6003619aFloatD
namespace Go.Proofs.Qxb6003619a
open Ieee

/-- r is the word nearest to h / s. -/
def Rate (h s r : Nat) : Prop :=
  h = 0 ∧ r = 0 ∨ ∃ g K, g ≤ 60 ∧ s ≤ h * 2 ^ g ∧ h * 2 ^ g < 2 * s ∧ IsR (h * 2 ^ g * 4503599627370496) s K ∧ r = (1022 - g) * 4503599627370496 + K

theorem K_le {h s g K : Nat} (h2 : h * 2 ^ g < 2 * s) (hk : IsR (h * 2 ^ g * 4503599627370496) s K) : K ≤ 9007199254740992 := by
  generalize h * 2 ^ g = x at *
  refine hk.le ?_
  omega

theorem K_ge {h s g K : Nat} (h1 : s ≤ h * 2 ^ g) (h2 : h * 2 ^ g < 2 * s) (hk : IsR (h * 2 ^ g * 4503599627370496) s K) : 4503599627370496 ≤ K := by
  generalize h * 2 ^ g = x at *
  obtain ⟨_, a, _, _⟩ := hk
  refine Nat.le_of_not_lt fun hlt => ?_
  have m : (K + 1) * s ≤ 4503599627370496 * s := Nat.mul_le_mul_right s hlt
  rw [Nat.succ_mul] at m
  omega

theorem Rate.lt {h s r : Nat} (hr : Rate h s r) : r < 9218868437227405312 := by
  rcases hr with ⟨_, rfl⟩ | ⟨g, K, hg, h1, h2, hk, rfl⟩
  · omega
  · have := K_le h2 hk
    clear h1 h2 hk
    omega

theorem Rate.mono {h1 s1 r1 h2 s2 r2 : Nat} (a : Rate h1 s1 r1) (b : Rate h2 s2 r2) (p1 : 0 < s1) (p2 : 0 < s2) (hle : h1 * s2 ≤ h2 * s1) : r1 ≤ r2 := by
  rcases a with ⟨_, rfl⟩ | ⟨g1, K1, hg1, u1, v1, k1, rfl⟩
  · exact Nat.zero_le _
  rcases b with ⟨rfl, rfl⟩ | ⟨g2, K2, hg2, u2, v2, k2, rfl⟩
  · exfalso
    rw [Nat.zero_mul] at hle
    rcases Nat.mul_eq_zero.mp (Nat.le_zero.mp hle) with h | h
    · subst h
      rw [Nat.zero_mul] at u1
      omega
    · omega
  rcases Nat.lt_trichotomy g1 g2 with h | h | h
  · exfalso
    obtain ⟨j, hj⟩ : ∃ j, g2 = g1 + (j + 1) := ⟨g2 - g1 - 1, by omega⟩
    have q : h2 * 2 ^ g1 < s2 := by
      have e : h2 * 2 ^ g2 = 2 * (h2 * 2 ^ g1 * 2 ^ j) := by
        rw [hj, Nat.pow_add, Nat.pow_succ, ← Nat.mul_assoc, ← Nat.mul_assoc, Nat.mul_comm 2]
      have : h2 * 2 ^ g1 * 1 ≤ h2 * 2 ^ g1 * 2 ^ j := Nat.mul_le_mul_left _ (Nat.two_pow_pos j)
      rw [e] at v2
      generalize h2 * 2 ^ g1 * 2 ^ j = y at *
      omega
    have c1 : s2 * s1 ≤ s2 * (h1 * 2 ^ g1) := Nat.mul_le_mul_left _ u1
    have c2 : h1 * s2 * 2 ^ g1 ≤ h2 * s1 * 2 ^ g1 := Nat.mul_le_mul_right _ hle
    have c3 : h2 * 2 ^ g1 * s1 < s2 * s1 := Nat.mul_lt_mul_of_pos_right q p1
    have d1 : s2 * (h1 * 2 ^ g1) = h1 * s2 * 2 ^ g1 := by ac_rfl
    have d2 : h2 * s1 * 2 ^ g1 = h2 * 2 ^ g1 * s1 := by ac_rfl
    rw [d1] at c1
    rw [d2] at c2
    exact absurd (Nat.lt_of_lt_of_le c3 (Nat.le_trans c1 c2)) (Nat.lt_irrefl _)
  · subst h
    have : K1 ≤ K2 := by
      refine k1.mono' p1 p2 k2 ?_
      have e1 : h1 * 2 ^ g1 * 4503599627370496 * s2 = h1 * s2 * (2 ^ g1 * 4503599627370496) := by ac_rfl
      have e2 : h2 * 2 ^ g1 * 4503599627370496 * s1 = h2 * s1 * (2 ^ g1 * 4503599627370496) := by ac_rfl
      rw [e1, e2]
      exact Nat.mul_le_mul_right _ hle
    omega
  · have x1 := K_le v1 k1
    have x2 := K_ge u2 v2 k2
    clear u1 v1 k1 u2 v2 k2 hle
    omega

theorem ratio_eq {mh ms h s a b p q : Nat} (H1 : mh * 2 ^ a = h * 2 ^ 53) (H2 : ms * 2 ^ b = s * 2 ^ 53) (hp : p + b = q + a) : mh * 2 ^ p * s = h * 2 ^ q * ms := by
  have hP : 2 ^ p * 2 ^ b = 2 ^ q * 2 ^ a := by rw [← Nat.pow_add, ← Nat.pow_add, hp]
  have hx : 0 < 2 ^ a * 2 ^ 53 := Nat.mul_pos (Nat.two_pow_pos _) (Nat.two_pow_pos _)
  refine Nat.eq_of_mul_eq_mul_right hx ?_
  generalize 2 ^ a = x at *
  generalize 2 ^ b = y at *
  generalize 2 ^ p = P at *
  generalize 2 ^ q = Q at *
  generalize 2 ^ 53 = T at *
  calc mh * P * s * (x * T) = (mh * x) * (s * T) * P := by ac_rfl
    _ = (h * T) * (ms * y) * P := by rw [H1, H2]
    _ = h * T * ms * (P * y) := by ac_rfl
    _ = h * T * ms * (Q * x) := by rw [hP]
    _ = h * Q * ms * (x * T) := by ac_rfl

theorem log2_mono {h s : Nat} (h0 : 0 < h) (hs : h ≤ s) : h.log2 ≤ s.log2 := by
  have hn : s ≠ 0 := by omega
  exact (Nat.le_log2 hn).mpr (Nat.le_trans (Nat.log2_self_le (by omega)) hs)

theorem log2_nrm {n : Nat} (h0 : 0 < n) (h : n ≤ 9007199254740992) : (nrm n).log2 = 52 := log2_of (nrm_le h0 h) (nrm_lt h0 h)

theorem div_zero {s : Nat} (h0 : 0 < s) (h : s ≤ 9007199254740992) : double.div (wd 0) (wd s) = some 0 := by
  obtain ⟨k2, e2, r2, _, _, p2⟩ := read_wd h
  have hk : k2 ≠ 0 := by
    have := (p2 h0).2
    have := nrm_le h0 h
    omega
  have e : wd 0 = 0 := rfl
  unfold Format.div
  rw [e, read_zero, r2]
  simp [Datum.quotient, hk, Format.write, Format.nearest, Format.word]

theorem quo_bounds (N ms st : Nat) (L : Nat) (h0 : 0 < ms) (h1 : L * ms ≤ N) (h2 : N < 2 * L * ms) (hst : st ≤ 1) : 2 * L ≤ 2 * (N / ms) + st ∧ 2 * (N / ms) + st < 4 * L := by
  have a := (Nat.le_div_iff_mul_le h0).mpr h1
  have b := (Nat.div_lt_iff_lt_mul h0).mpr h2
  omega

theorem last_quo (A S k : Nat) (p : Int) (hp : p = (A : Int) - S - 55) (hAS : A ≤ S) (hS : S ≤ 53) (hk : k = 55 ∨ k = 54) :
    (A : Int) - S - 107 + k = max (p + k - 52) (-1074) ∧ (p - ((A : Int) - S - 107 + k)).toNat = 0 ∧ ((A : Int) - S - 107 + k - p).toNat = k - 52 ∧ ((A : Int) - S - 107 + k + 1074).toNat = 1022 - (S - A + (55 - k)) :=
  ⟨by omega, by omega, by omega, by omega⟩

theorem quo_near {h s mh ms A S : Nat} (q1 : mh * 2 ^ (A + 1) = h * 2 ^ 53) (q2 : ms * 2 ^ (S + 1) = s * 2 ^ 53) (a1 : 4503599627370496 ≤ mh) (b1 : mh < 9007199254740992) (a2 : 4503599627370496 ≤ ms) (b2 : ms < 9007199254740992)
    (s0 : 0 < s) (hAS : A ≤ S) (hS : S ≤ 53) (p : Int) (hp : p = (A : Int) - S - 55) : Rate h s (double.nearest false (2 * (mh * 2 ^ 54 / ms) + (mh * 2 ^ 54 % ms != 0).toNat) p) := by
  have m0 : 0 < ms := by omega
  have hst : (mh * 2 ^ 54 % ms != 0).toNat ≤ 1 := by rcases toNat_b (mh * 2 ^ 54 % ms != 0) with h | h <;> omega
  by_cases hc : ms ≤ mh
  · obtain ⟨d1, d2⟩ := quo_bounds (mh * 2 ^ 54) ms _ (2 ^ 54) m0 (by omega) (by omega) hst
    have hl : (2 * (mh * 2 ^ 54 / ms) + (mh * 2 ^ 54 % ms != 0).toNat).log2 = 55 := log2_of (by omega) (by omega)
    obtain ⟨e1, e2, e3, e4⟩ := last_quo A S 55 p hp hAS hS (.inl rfl)
    rw [nearest_def _ _ ((A : Int) - S - 107 + (55 : Nat)) (by omega) (by rw [hl]; exact e1), e2, e3, e4, Nat.pow_zero, Nat.mul_one]
    have c3 := cut3 (mh * 2 ^ 54) ms m0 (by rw [hl]; omega)
    have g0 := ratio_eq (p := 0) (q := S - A) q1 q2 (by omega)
    have g1 := ratio_eq (p := 54) (q := S - A + 54) q1 q2 (by omega)
    rw [Nat.pow_zero, Nat.mul_one] at g0
    have u : s ≤ h * 2 ^ (S - A) := by
      refine Nat.le_of_mul_le_mul_right (c := ms) ?_ m0
      rw [← g0, Nat.mul_comm]
      exact Nat.mul_le_mul_right _ hc
    have v : h * 2 ^ (S - A) < 2 * s := by
      refine Nat.lt_of_mul_lt_mul_right (a := ms) ?_
      rw [← g0, Nat.mul_right_comm]
      exact Nat.mul_lt_mul_of_pos_right (by omega) s0
    have k : IsR (h * 2 ^ (S - A) * 4503599627370496) s (Toward.even.cut false (2 * (mh * 2 ^ 54 / ms) + (mh * 2 ^ 54 % ms != 0).toNat) 3) := by
      refine c3.ratio (by omega) s0 ?_
      rw [g1, Nat.pow_add]
      generalize 2 ^ (S - A) = x
      have : (2 : Nat) ^ 54 = 4503599627370496 * 4 := rfl
      rw [this]
      ac_rfl
    have kl := K_le v k
    refine .inr ⟨S - A, _, by omega, u, v, k, ?_⟩
    rw [show 55 - 55 = 0 from rfl, Nat.add_zero]
    refine Nat.min_eq_left ?_
    show _ + Toward.even.cut false _ 3 ≤ _
    omega
  · obtain ⟨d1, d2⟩ := quo_bounds (mh * 2 ^ 54) ms _ (2 ^ 53) m0 (by omega) (by omega) hst
    have hl : (2 * (mh * 2 ^ 54 / ms) + (mh * 2 ^ 54 % ms != 0).toNat).log2 = 54 := log2_of (by omega) (by omega)
    obtain ⟨e1, e2, e3, e4⟩ := last_quo A S 54 p hp hAS hS (.inr rfl)
    rw [nearest_def _ _ ((A : Int) - S - 107 + (54 : Nat)) (by omega) (by rw [hl]; exact e1), e2, e3, e4, Nat.pow_zero, Nat.mul_one]
    have c3 := cut2 (mh * 2 ^ 54) ms m0
    have g0 := ratio_eq (p := 1) (q := S - A + 1) q1 q2 (by omega)
    have g1 := ratio_eq (p := 54) (q := S - A + 1 + 53) q1 q2 (by omega)
    rw [Nat.pow_one] at g0
    have u : s ≤ h * 2 ^ (S - A + 1) := by
      refine Nat.le_of_mul_le_mul_right (c := ms) ?_ m0
      rw [← g0, Nat.mul_comm]
      exact Nat.mul_le_mul_right _ (by omega)
    have v : h * 2 ^ (S - A + 1) < 2 * s := by
      refine Nat.lt_of_mul_lt_mul_right (a := ms) ?_
      rw [← g0, Nat.mul_right_comm 2 s ms]
      exact Nat.mul_lt_mul_of_pos_right (by omega) s0
    have k : IsR (h * 2 ^ (S - A + 1) * 4503599627370496) s (Toward.even.cut false (2 * (mh * 2 ^ 54 / ms) + (mh * 2 ^ 54 % ms != 0).toNat) 2) := by
      refine c3.ratio (by omega) s0 ?_
      rw [g1, Nat.pow_add]
      generalize 2 ^ (S - A + 1) = x
      have : (2 : Nat) ^ 53 = 4503599627370496 * 2 := rfl
      rw [this]
      ac_rfl
    have kl := K_le v k
    refine .inr ⟨S - A + 1, _, by omega, u, v, k, ?_⟩
    rw [show 55 - 54 = 1 from rfl]
    refine Nat.min_eq_left ?_
    show _ + Toward.even.cut false _ 2 ≤ _
    omega

theorem div_wd {h s : Nat} (h0 : 0 < h) (hs : h ≤ s) (hle : s ≤ 9007199254740992) : ∃ r, double.div (wd h) (wd s) = some r ∧ Rate h s r := by
  have s0 : 0 < s := by omega
  have hle' : h ≤ 9007199254740992 := by omega
  obtain ⟨_, _, r1, _, _, p1⟩ := read_wd hle'
  obtain ⟨rfl, rfl⟩ := p1 h0
  obtain ⟨_, _, r2, _, _, p2⟩ := read_wd hle
  obtain ⟨rfl, rfl⟩ := p2 s0
  have q1 := nrm_eq h0 hle'
  have q2 := nrm_eq s0 hle
  have a1 := nrm_le h0 hle'
  have b1 := nrm_lt h0 hle'
  have a2 := nrm_le s0 hle
  have b2 := nrm_lt s0 hle
  have l1 := log2_nrm h0 hle'
  have l2 := log2_nrm s0 hle
  have hAS := log2_mono h0 hs
  have hS := log2_le53 s0 hle
  unfold Format.div
  rw [r1, r2]
  have hms : ¬ nrm s = 0 := by omega
  have hmore : double.fractionBits + 2 + 52 - 52 = 54 := rfl
  simp only [Datum.quotient, l1, l2, hmore, if_neg hms, Option.map_some, Format.write, Bool.false_xor, Nat.shiftLeft_eq]
  exact ⟨_, rfl, quo_near q1 q2 a1 b1 a2 b2 s0 hAS hS _ (by omega)⟩

end Go.Proofs.Qxb6003619a
