/-
  Floats, plain: whole numbers up to 2^53 are written exactly, and added exactly.
-/
import Derived.Test.Qxb6003619aFloatC
namespace Go.Proofs.Qxb6003619a
open Ieee

def zz : Nat := 1074
theorem zz_eq : zz = 1074 := rfl

theorem wd_lt {n : Nat} (h : n ≤ 9007199254740992) : wd n < 9218868437227405312 := by
  unfold wd
  by_cases e : n = 0
  · rw [if_pos e]; omega
  · rw [if_neg e]
    have := log2_le53 (n := n) (by omega) h
    have := nrm_lt (n := n) (by omega) h
    omega

theorem nearest_zero : double.nearest false 0 0 = 0 := by decide

theorem floatOfInt_wd {n : Nat} (h : n ≤ 9007199254740992) : floatOfInt .f64 (n : Int) = wd n := by
  have e1 : decide ((n : Int) < 0) = false := by simp
  have e2 : (n : Int).natAbs = n := by simp
  have e : floatOfInt .f64 (n : Int) = double.nearest (decide ((n : Int) < 0)) (n : Int).natAbs 0 := rfl
  rw [e, e1, e2]
  by_cases z : n = 0
  · subst z; rw [nearest_zero]; rfl
  · have := nearest_pow (s := n) (c := 0) (by omega) h
    simpa using this

theorem read_wd {n : Nat} (h : n ≤ 9007199254740992) : ∃ k e : Nat, double.read (wd n) = .number false k ((e : Int) - 1074) ∧ k * 2 ^ e = n * 2 ^ zz ∧ (n = 0 → e = 0 ∧ k = 0) ∧ (0 < n → e = n.log2 + 1022 ∧ k = nrm n) := by
  by_cases z : n = 0
  · subst z
    exact ⟨0, 0, read_zero, by rw [Nat.zero_mul, Nat.zero_mul], fun _ => ⟨rfl, rfl⟩, fun h => absurd h (Nat.lt_irrefl 0)⟩
  · have h0 : 0 < n := Nat.pos_of_ne_zero z
    have hS := log2_le53 h0 h
    refine ⟨nrm n, n.log2 + 1022, ?_, ?_, fun h => absurd h z, fun _ => ⟨rfl, rfl⟩⟩
    · unfold wd
      rw [if_neg z, read_norm _ _ (by omega) (nrm_le h0 h) (nrm_lt h0 h)]
    · obtain ⟨y, hy⟩ : ∃ y, zz = 53 + y := ⟨1021, rfl⟩
      have a : n.log2 + 1022 = n.log2 + 1 + y := by rw [zz_eq] at hy; omega
      have b := hy
      rw [a, b, Nat.pow_add, ← Nat.mul_assoc, nrm_eq h0 h, Nat.mul_assoc, ← Nat.pow_add]

theorem sum_ints (e1 e2 : Nat) (hmin : min e1 e2 ≤ 1074) : ((e1 : Int) - 1074 - min ((e1 : Int) - 1074) ((e2 : Int) - 1074)).toNat = e1 - min e1 e2 ∧ ((e2 : Int) - 1074 - min ((e1 : Int) - 1074) ((e2 : Int) - 1074)).toNat = e2 - min e1 e2 ∧
    min ((e1 : Int) - 1074) ((e2 : Int) - 1074) = -((zz - min e1 e2 : Nat) : Int) ∧ e1 - min e1 e2 + min e1 e2 = e1 ∧ e2 - min e1 e2 + min e1 e2 = e2 ∧ zz - min e1 e2 + min e1 e2 = zz := by
  have := zz_eq
  exact ⟨by omega, by omega, by omega, by omega, by omega, by omega⟩

theorem add_wd {h m : Nat} (h0 : 0 < h + m) (hle : h + m ≤ 9007199254740992) : double.add (wd h) (wd m) = some (wd (h + m)) := by
  obtain ⟨k1, e1, r1, v1, z1, p1⟩ := read_wd (n := h) (by omega)
  obtain ⟨k2, e2, r2, v2, z2, p2⟩ := read_wd (n := m) (by omega)
  have hmin : min e1 e2 ≤ 1074 := by
    clear v1 v2 r1 r2
    by_cases a : h = 0
    · have := z1 a; omega
    · by_cases b : m = 0
      · have := z2 b; omega
      · have := p1 (by omega)
        have := log2_le52 (n := h) (by omega) (by omega)
        omega
  obtain ⟨i1, i2, i3, i4, i5, i6⟩ := sum_ints e1 e2 hmin
  have tot : k1 * 2 ^ (e1 - min e1 e2) + k2 * 2 ^ (e2 - min e1 e2) = (h + m) * 2 ^ (zz - min e1 e2) := by
    refine Nat.eq_of_mul_eq_mul_right (Nat.two_pow_pos (min e1 e2)) ?_
    rw [Nat.add_mul, Nat.mul_assoc, Nat.mul_assoc, Nat.mul_assoc, ← Nat.pow_add, ← Nat.pow_add, ← Nat.pow_add, i4, i5, i6, v1, v2, Nat.add_mul]
  have tpos : 0 < (h + m) * 2 ^ (zz - min e1 e2) := Nat.mul_pos h0 (Nat.two_pow_pos _)
  have tz : ((k1 * 2 ^ (e1 - min e1 e2) : Nat) : Int) + ((k2 * 2 ^ (e2 - min e1 e2) : Nat) : Int) = (((h + m) * 2 ^ (zz - min e1 e2) : Nat) : Int) := by
    rw [← Int.natCast_add, tot]
  have hT := nearest_pow (c := zz - min e1 e2) h0 hle
  unfold Format.add
  rw [r1, r2]
  simp only [Datum.sum, signed_false, i1, i2, tz]
  generalize (h + m) * 2 ^ (zz - min e1 e2) = T at *
  have n1 : ¬ (T : Int) = 0 := by omega
  have n2 : ¬ (T : Int) < 0 := by omega
  simp only [n1, n2, if_false, Int.natAbs_natCast, decide_false, Option.map_some, Format.write, i3]
  rw [hT]

end Go.Proofs.Qxb6003619a
