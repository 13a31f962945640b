/-
  The rate of two counts as a word, and its laws.
-/
import Derived.Test.Qxb6003619aFloatE
namespace Go.Proofs.Qxb6003619a
open Ieee

/-- The word that HitRate answers. -/
def rt (h m : Nat) : Nat := if h + m = 0 then 0 else (double.div (wd h) (wd (h + m))).getD 0

theorem rt_zero : rt 0 0 = 0 := rfl

theorem rt_rate {h m : Nat} (h0 : 0 < h + m) (hle : h + m ≤ 9007199254740992) : double.div (wd h) (wd (h + m)) = some (rt h m) ∧ Rate h (h + m) (rt h m) := by
  have hz : ¬ h + m = 0 := by omega
  by_cases z : h = 0
  · have e := div_zero h0 hle
    subst z
    have er : rt 0 m = 0 := by unfold rt; rw [if_neg hz, e]; rfl
    rw [er]
    exact ⟨e, .inl ⟨rfl, rfl⟩⟩
  · obtain ⟨r, e, hr⟩ := div_wd (h := h) (s := h + m) (by omega) (by omega) hle
    have er : rt h m = r := by unfold rt; rw [if_neg hz, e]; rfl
    rw [er]
    exact ⟨e, hr⟩

theorem rt_lt {h m : Nat} (hle : h + m ≤ 9007199254740992) : rt h m < 9218868437227405312 := by
  by_cases z : h + m = 0
  · unfold rt; rw [if_pos z]; omega
  · exact (rt_rate (by omega) hle).2.lt

theorem rt_mono {h1 m1 h2 m2 : Nat} (p1 : 0 < h1 + m1) (l1 : h1 + m1 ≤ 9007199254740992) (p2 : 0 < h2 + m2) (l2 : h2 + m2 ≤ 9007199254740992) (h : h1 * (h2 + m2) ≤ h2 * (h1 + m1)) : rt h1 m1 ≤ rt h2 m2 :=
  (rt_rate p1 l1).2.mono (rt_rate p2 l2).2 p1 p2 h

theorem c_one : rt 1 0 = 4607182418800017408 := by decide +kernel
theorem c_half : rt 1 1 = 4602678819172646912 := by decide +kernel
theorem c_below1 : rt 2199023255551 1 < 4607182418800017408 := by decide +kernel
theorem c_belowh : rt 2199023255551 2199023255553 < 4602678819172646912 := by decide +kernel
theorem c_aboveh : 4602678819172646912 < rt 2199023255553 2199023255551 := by decide +kernel
theorem c_pos : 0 < rt 1 2199023255551 := by decide +kernel

section
variable {h m : Nat} (h0 : 0 < h + m) (hl : h + m ≤ 2199023255552)
include h0 hl

theorem rt_none (z : h = 0) : rt h m = 0 := by
  rcases (rt_rate h0 (by omega)).2 with ⟨_, e⟩ | ⟨g, K, _, u, v, _, _⟩
  · exact e
  · subst z
    rw [Nat.zero_mul] at u
    omega

theorem rt_pos (z : 0 < h) : 0 < rt h m :=
  Nat.lt_of_lt_of_le c_pos (rt_mono (by omega) (by omega) h0 (by omega) (by omega))

theorem rt_all (z : m = 0) : rt h m = 4607182418800017408 := by
  rw [← c_one]
  exact Nat.le_antisymm (rt_mono h0 (by omega) (by omega) (by omega) (by omega)) (rt_mono (by omega) (by omega) h0 (by omega) (by omega))

theorem rt_less (z : 0 < m) : rt h m < 4607182418800017408 :=
  Nat.lt_of_le_of_lt (rt_mono h0 (by omega) (by omega) (by omega) (by omega)) c_below1

theorem rt_low (z : h < m) : rt h m < 4602678819172646912 :=
  Nat.lt_of_le_of_lt (rt_mono h0 (by omega) (by omega) (by omega) (by omega)) c_belowh

theorem rt_mid (z : h = m) : rt h m = 4602678819172646912 := by
  rw [← c_half]
  exact Nat.le_antisymm (rt_mono h0 (by omega) (by omega) (by omega) (by omega)) (rt_mono (by omega) (by omega) h0 (by omega) (by omega))

theorem rt_high (z : m < h) : 4602678819172646912 < rt h m :=
  Nat.lt_of_lt_of_le c_aboveh (rt_mono (by omega) (by omega) h0 (by omega) (by omega))
end

theorem rt_scale {h m k : Nat} (hk0 : 1 ≤ k) (hk : k ≤ 4096) (hl : h + m ≤ 2199023255552) : rt (k * h) (k * m) = rt h m ∧ k * h + k * m ≤ 9007199254740992 := by
  have e : k * h + k * m = k * (h + m) := (Nat.mul_add _ _ _).symm
  have b : k * (h + m) ≤ 4096 * 2199023255552 := Nat.mul_le_mul hk hl
  refine ⟨?_, by rw [e]; omega⟩
  by_cases z : h + m = 0
  · obtain ⟨rfl, rfl⟩ : h = 0 ∧ m = 0 := by omega
    simp
  · have p : 0 < k * h + k * m := by rw [e]; exact Nat.mul_pos hk0 (by omega)
    have q : k * h * (h + m) = h * (k * h + k * m) := by rw [e]; ac_rfl
    exact Nat.le_antisymm (rt_mono p (by rw [e]; omega) (by omega) (by omega) (Nat.le_of_eq q)) (rt_mono (by omega) (by omega) p (by rw [e]; omega) (Nat.le_of_eq q.symm))

theorem rt_up {h m : Nat} (hl : h + m ≤ 2199023255552) : rt h m ≤ rt (h + 1) m := by
  by_cases z : h + m = 0
  · obtain ⟨rfl, rfl⟩ : h = 0 ∧ m = 0 := by omega
    rw [rt_zero]
    exact Nat.zero_le _
  · refine rt_mono (by omega) (by omega) (by omega) (by omega) ?_
    have a : h * (h + 1 + m) = h * (h + m) + h := by rw [show h + 1 + m = (h + m) + 1 by omega, Nat.mul_succ]
    have b : (h + 1) * (h + m) = h * (h + m) + (h + m) := Nat.succ_mul _ _
    rw [a, b]
    omega

/-! ### in the words that the walk asks -/
theorem ord_lt {a b : Nat} (h : a < b) (hb : b < 9218868437227405312) : FloatKind.f64.format.order a b = some .lt := (order_lt h hb).1
theorem ord_gt {a b : Nat} (h : b < a) (ha : a < 9218868437227405312) : FloatKind.f64.format.order a b = some .gt := (order_lt h ha).2
theorem ord_eq {a b : Nat} (h : a = b) (hb : b < 9218868437227405312) : FloatKind.f64.format.order a b = some .eq := by subst h; exact order_eq hb

end Go.Proofs.Qxb6003619a
