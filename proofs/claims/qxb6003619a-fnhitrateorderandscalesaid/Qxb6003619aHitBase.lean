/-
  HitRate by a contract; what the walk is told of the rate.
-/
import Derived.Test.Qxb6003619aFloatF
import Derived.Test.Qxb6003619aRows
import Derived.WalkKit
import Derived.WalkSpells
import Derived.WalkLawsBesides
namespace Go.Proofs.Qxb6003619a
open Go.RowKit

theorem hid' {p : Prop} (h : p) : Hid p := h

theorem run_conv {n : Nat} (h : n ≤ 9007199254740992) (w : World) : (convert 27 30 (.int .u64 (n : Int))).run Try.prog w = .ok (.float .f64 (wd n)) w := by
  rw [run_convert_int_float w 27 30 .u64 .f64 n (by kernel_rfl) (by kernel_rfl), floatOfInt_wd h]

theorem run_sum {h m : Nat} (h0 : 0 < h + m) (hle : h + m ≤ 9007199254740992) (w : World) : (binOp .add 30 (.float .f64 (wd h)) (.float .f64 (wd m))).run Try.prog w = .ok (.float .f64 (wd (h + m))) w :=
  run_float_arith w .add 30 .f64 _ _ _ (add_wd h0 hle)

theorem run_quo {h m : Nat} (h0 : 0 < h + m) (hle : h + m ≤ 9007199254740992) (w : World) : (binOp .quo 30 (.float .f64 (wd h)) (.float .f64 (wd (h + m)))).run Try.prog w = .ok (.float .f64 (rt h m)) w :=
  run_float_arith w .quo 30 .f64 _ _ _ (rt_rate h0 hle).1

set_option maxHeartbeats 400000 in
theorem hit9_zero (x2 x3 x4 x5 : Value) (w : World) :
    Calls Try.prog 9 #[.agg #[.int .u64 0, .int .u64 0, x2, x3, x4, x5]] w fun e w' => e = .returned (.float .f64 (rt 0 0)) ∧ Below w.heap.size w w' := by
  go_enter Try.func9, Try.ntmps9
  go_wp2
  go_ret
  exact ⟨rfl, (Below.refl _ _).alloc (Nat.le_refl _) _⟩

set_option maxHeartbeats 400000 in
theorem hit9_none (m : Nat) (x2 x3 x4 x5 : Value) (w : World) (h0 : 0 < m) (hle : m ≤ 9007199254740992) :
    Calls Try.prog 9 #[.agg #[.int .u64 0, .int .u64 (m : Int), x2, x3, x4, x5]] w fun e w' => e = .returned (.float .f64 (rt 0 m)) ∧ Below w.heap.size w w' := by
  have c0 : ∀ w, (convert 27 30 (.int .u64 0)).run Try.prog w = .ok (.float .f64 (wd 0)) w := fun w => run_conv (n := 0) (by omega) w
  have c1 := fun w => run_conv (n := m) (by omega) w
  have a1 : ∀ w, (binOp .add 30 (.float .f64 (wd 0)) (.float .f64 (wd m))).run Try.prog w = .ok (.float .f64 (wd m)) w := fun w => by
    have e := run_sum (h := 0) (m := m) (by omega) (by omega) w
    rwa [Nat.zero_add] at e
  have d1 : ∀ w, (binOp .quo 30 (.float .f64 (wd 0)) (.float .f64 (wd m))).run Try.prog w = .ok (.float .f64 (rt 0 m)) w := fun w => by
    have e := run_quo (h := 0) (m := m) (by omega) (by omega) w
    rwa [Nat.zero_add] at e
  have z : ((m : Int) == 0) = false := by simp; omega
  go_enter Try.func9, Try.ntmps9
  go_wp2
  go_ret
  exact ⟨rfl, (Below.refl _ _).alloc (Nat.le_refl _) _⟩

set_option maxHeartbeats 400000 in
theorem hit9_some (h m : Nat) (x2 x3 x4 x5 : Value) (w : World) (h0 : 0 < h) (hle : h + m ≤ 9007199254740992) :
    Calls Try.prog 9 #[.agg #[.int .u64 (h : Int), .int .u64 (m : Int), x2, x3, x4, x5]] w fun e w' => e = .returned (.float .f64 (rt h m)) ∧ Below w.heap.size w w' := by
  have c0 := fun w => run_conv (n := h) (by omega) w
  have c1 := fun w => run_conv (n := m) (by omega) w
  have a1 := fun w => run_sum (h := h) (m := m) (by omega) (by omega) w
  have d1 := fun w => run_quo (h := h) (m := m) (by omega) (by omega) w
  have z : ((h : Int) == 0) = false := by simp; omega
  go_enter Try.func9, Try.ntmps9
  go_wp2
  go_ret
  exact ⟨rfl, (Below.refl _ _).alloc (Nat.le_refl _) _⟩

theorem hit9_any (h m : Nat) (x2 x3 x4 x5 : Value) (w : World) (hle : h + m ≤ 9007199254740992) :
    Calls Try.prog 9 #[.agg #[.int .u64 (h : Int), .int .u64 (m : Int), x2, x3, x4, x5]] w fun e w' => e = .returned (.float .f64 (rt h m)) ∧ Below w.heap.size w w' := by
  by_cases z : h = 0
  · subst z
    by_cases y : m = 0
    · subst y
      exact hit9_zero x2 x3 x4 x5 w
    · exact hit9_none m x2 x3 x4 x5 w (by omega) (by omega)
  · exact hit9_some h m x2 x3 x4 x5 w (by omega) hle

/-- The rate and its kin, named: what the walk is told of them. -/
structure Told (h m k r p : Nat) (o0 o1 oh op : Ordering) : Prop where
  tr : rt h m = r
  ts : rt (k * h) (k * m) = r
  tp : rt (h + 1) m = p
  trr : FloatKind.f64.format.order r r = some .eq
  t0 : FloatKind.f64.format.order r 0 = some o0
  t1 : FloatKind.f64.format.order r 4607182418800017408 = some o1
  th : FloatKind.f64.format.order r 4602678819172646912 = some oh
  tq : FloatKind.f64.format.order p r = some op

def upB (o0 o1 oh op : Ordering) (h m : Nat) : Prop :=
  (op = .gt ∨ op = .eq) ∧ (h = 0 ∧ m = 0 ∧ o0 = .eq ∨ h = 0 ∧ 0 < m ∧ o0 = .eq ∧ o1 = .lt ∧ oh = .lt ∨ 0 < h ∧ m = 0 ∧ o0 = .gt ∧ o1 = .eq ∧ oh = .gt ∨
    0 < h ∧ 0 < m ∧ h < m ∧ o0 = .gt ∧ o1 = .lt ∧ oh = .lt ∨ 0 < h ∧ 0 < m ∧ h = m ∧ o0 = .gt ∧ o1 = .lt ∧ oh = .eq ∨ 0 < h ∧ 0 < m ∧ m < h ∧ o0 = .gt ∧ o1 = .lt ∧ oh = .gt)

theorem told (h m k : Nat) (hl : h + m ≤ 2199023255552) (k1 : 1 ≤ k) (k2 : k ≤ 4096) : ∃ r p o0 o1 oh op, Told h m k r p o0 o1 oh op ∧ upB o0 o1 oh op h m := by
  obtain ⟨hs, _⟩ := rt_scale (h := h) (m := m) k1 k2 hl
  have lr := rt_lt (h := h) (m := m) (by omega)
  have lp := rt_lt (h := h + 1) (m := m) (by omega)
  have up := rt_up (h := h) (m := m) hl
  obtain ⟨op, hop, hop'⟩ : ∃ op : Ordering, FloatKind.f64.format.order (rt (h + 1) m) (rt h m) = some op ∧ (op = .gt ∨ op = .eq) := by
    rcases Nat.lt_or_eq_of_le up with u | u
    · exact ⟨.gt, ord_gt u lp, .inl rfl⟩
    · exact ⟨.eq, ord_eq u.symm lr, .inr rfl⟩
  have ord : ∀ c, c < 9218868437227405312 → ∃ o : Ordering, FloatKind.f64.format.order (rt h m) c = some o ∧ (rt h m < c → o = .lt) ∧ (rt h m = c → o = .eq) ∧ (c < rt h m → o = .gt) := by
    intro c hc
    rcases Nat.lt_trichotomy (rt h m) c with u | u | u
    · exact ⟨.lt, ord_lt u hc, fun _ => rfl, fun e => by omega, fun e => by omega⟩
    · exact ⟨.eq, ord_eq u hc, fun e => by omega, fun _ => rfl, fun e => by omega⟩
    · exact ⟨.gt, ord_gt u lr, fun e => by omega, fun e => by omega, fun _ => rfl⟩
  obtain ⟨o0, h0, a0, b0, c0⟩ := ord 0 (by omega)
  obtain ⟨o1, h1, a1, b1, c1⟩ := ord 4607182418800017408 (by omega)
  obtain ⟨oh, hh, ah, bh, ch⟩ := ord 4602678819172646912 (by omega)
  refine ⟨rt h m, rt (h + 1) m, o0, o1, oh, op, ⟨rfl, hs, rfl, ord_eq rfl lr, h0, h1, hh, hop⟩, hop', ?_⟩
  by_cases z : h = 0
  · by_cases y : m = 0
    · subst z; subst y
      exact .inl ⟨rfl, rfl, b0 rt_zero⟩
    · have e0 : 0 < h + m := by omega
      exact .inr (.inl ⟨z, by omega, b0 (rt_none e0 hl z), a1 (rt_less e0 hl (by omega)), ah (rt_low e0 hl (by omega))⟩)
  · have e0 : 0 < h + m := by omega
    by_cases y : m = 0
    · exact .inr (.inr (.inl ⟨by omega, y, c0 (rt_pos e0 hl (by omega)), b1 (rt_all e0 hl y), ch (rt_high e0 hl (by omega))⟩))
    · rcases Nat.lt_trichotomy h m with u | u | u
      · exact .inr (.inr (.inr (.inl ⟨by omega, by omega, u, c0 (rt_pos e0 hl (by omega)), a1 (rt_less e0 hl (by omega)), ah (rt_low e0 hl u)⟩)))
      · exact .inr (.inr (.inr (.inr (.inl ⟨by omega, by omega, u, c0 (rt_pos e0 hl (by omega)), a1 (rt_less e0 hl (by omega)), bh (rt_mid e0 hl u)⟩))))
      · exact .inr (.inr (.inr (.inr (.inr ⟨by omega, by omega, u, c0 (rt_pos e0 hl (by omega)), a1 (rt_less e0 hl (by omega)), ch (rt_high e0 hl u)⟩))))

/-- The wraps of the walk. -/
theorem wrap_mul {k h : Nat} (hk : k ≤ 4096) (hh : h ≤ 1099511627776) : IntKind.u64.wrap ((k : Int) * (h : Int)) = ((k * h : Nat) : Int) := by
  have b : k * h ≤ 4096 * 1099511627776 := Nat.mul_le_mul hk hh
  have e : (k : Int) * (h : Int) = ((k * h : Nat) : Int) := by simp
  rw [e, IntKind.wrap_u64]
  omega

theorem sums {k h m : Nat} (hk : k ≤ 4096) (hh : h ≤ 1099511627776) (hm : m ≤ 1099511627776) : k * h + k * m ≤ 9007199254740992 := by
  have b : k * h ≤ 4096 * 1099511627776 := Nat.mul_le_mul hk hh
  have c : k * m ≤ 4096 * 1099511627776 := Nat.mul_le_mul hk hm
  omega

end Go.Proofs.Qxb6003619a
