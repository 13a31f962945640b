/-
  zzNaiveMatter: contract: the least closed set.
-/
import Derived.Test.Qxb6605479aPlain
import Derived.Test.Qxb6605479aBytes
namespace Go.Proofs.Qxb6605479a
open Go.RowKit

def CAcl (D : Rules) (m : Nat → Bool) (i : Nat) : Prop := ∀ i', i' < i → RuleCl D (fun x => m x = true) i'
def CRcl (f g : Nat → Int) (m : Nat → Bool) (i : Nat) : Prop := ∀ i', i' < i → PairCl f g (fun x => m x = true) i'

theorem crcl_step {f g : Nat → Int} {m : Nat → Bool} {i : Nat} (h : CRcl f g m i) (hi : PairCl f g (fun x => m x = true) i) : CRcl f g m (i + 1) := fun i' hi' => by
  by_cases e : i' = i
  · subst e; exact hi
  · exact h i' (by omega)

theorem cacl_step {D : Rules} {m : Nat → Bool} {i : Nat} (h : CAcl D m i) (hi : RuleCl D (fun x => m x = true) i) : CAcl D m (i + 1) := fun i' hi' => by
  by_cases e : i' = i
  · subst e; exact hi
  · exact h i' (by omega)

/-- What is known in the inner loop where nothing has turned. -/
def PreI (D : Rules) (i : Nat) (m : Nat → Bool) (j : Nat) : Prop := CAcl D m i ∧ m (D.adm i).toNat = true ∧ ∀ j', j' < j → m (D.lit i j').toNat = true

theorem prei_step {D : Rules} {i : Nat} {m : Nat → Bool} {j : Nat} (h : PreI D i m j) (hj : m (D.lit i j).toNat = true) : PreI D i m (j + 1) :=
  ⟨h.1, h.2.1, fun j' hj' => by
    by_cases e : j' = j
    · subst e; exact hj
    · exact h.2.2 j' (by omega)⟩

set_option maxRecDepth 100000 in
set_option maxHeartbeats 4000000 in
theorem naive_any (goal roles : Nat) (a0 : Option Addr) (cap0 : Nat) (D : Rules) (a1 : Option Addr) (l cap1 : Nat) (f g : Nat → Int) (w : World)
    (hr : roles ≤ 65536) (hg : goal < roles) (hn : D.n ≤ 65536) (hpl : ∀ i, i < D.n → D.pl i ≤ 65536) (hl : l ≤ 65536)
    (hca : CAat w.heap.size w a0 D) (hcr : PairsAt w.heap.size w a1 l f g) (hci : RulesIn D.n D roles) (hri : PairsIn l f g roles) :
    Calls Try.prog 25 #[.int .i64 goal, .int .i64 roles, .slice a0 D.n cap0, .slice a1 l cap1] w fun e w' => ∃ m, e = .returned (.slice (some ⟨w.heap.size, 0, none⟩) roles roles) ∧ MRow w roles m w' ∧ Least D l f g goal m := by
  obtain ⟨i0, hi, hz0, hz1, hz2⟩ := info_parts Try.info4
  have hb8 : i0.bytes * roles ≤ 281474976710656 := by rw [hz2]; omega
  have hml : roles ≤ maxLen := by unfold maxLen; omega
  go_enter Try.func25, Try.ntmps25
  go_wp2_with (at_make; refine wpList_make_full _ rfl _ _ 23 rfl w.heap.size 4 i0 (.bool false) 1 Try.underlying23 hi hz0 hz1 .i64 .i64 roles roles roles rfl rfl rfl rfl hb8 hml (Nat.le_refl _) ?_; intro w1 hown hgrow; have hM := mrow_start hown hgrow; clear hown hgrow hb8 hml hi hz0 hz1 hz2; have hMc := hM.2 goal hg; have hMf := hM.1.2.2.1 goal)
  have hM' := hM.mark hg
  have hc0 : 1 ≤ cnt (upd (fun _ => false) goal) roles := cnt_pos _ goal _ hg (upd_same _ _)
  have HS : NS w roles goal D l f g 0 (upd (fun _ => false) goal) false True (w1.setCell ⟨w.heap.size, goal, none⟩ (.bool true)) :=
    ⟨hM', upd_same _ _, sound_start D l f g goal, hc0, (by intro h; cases h), fun _ => trivial⟩
  clear hM hM' hMc hMf hc0
  go_loopw [10] (fun t wr => ∃ (p : Nat) (m : Nat → Bool), t = .int .i64 p ∧ NS w roles goal D l f g p m false True wr) (fun t _ => roles + 1 - (intOf t).toNat)
  case atStart => exact ⟨0, _, rfl, HS⟩
  case round =>
    clear HS
    obtain ⟨p, m, rfl, hN⟩ := hrel
    have hp : p + 1 ≤ roles := Nat.le_trans hN.2.2.2.1 (cnt_le m roles)
    have hN1 : NS w roles goal D l f g p m false (CAcl D m 0) wr := hN.say fun _ _ i hi => by omega
    clear hN
    go_wp2
    go_loopw [11, 12] (fun c t wr => ∃ (i : Nat) (m : Nat → Bool) (ch : Bool), i ≤ D.n ∧ c = .bool ch ∧ t = .int .i64 i ∧ NS w roles goal D l f g p m ch (CAcl D m i) wr) (fun _ t _ => D.n - (intOf t).toNat)
    case atStart => exact ⟨0, _, false, Nat.zero_le _, rfl, rfl, hN1⟩
    case round =>
      clear hN1 m
      obtain ⟨i, m, ch, hin, rfl, rfl, hN⟩ := hrel
      by_cases hil : i < D.n
      · obtain ⟨⟨ha0, ha1⟩, ⟨hr0, hr1⟩, hlits⟩ := hci i hil
        have hpi := hpl i hil
        rcases hca with h0 | ⟨b, off, rfl, hlt, hc⟩
        · omega
        have hrule := hc i hil
        have hR := hrule.below hlt hN.1.1.1 (Nat.le_refl _)
        obtain ⟨pa, pc, g1, g2, g3, g4, g5⟩ := hR
        have hcR := hN.1.2 (D.rol i).toNat (by omega)
        have hcA := hN.1.2 (D.adm i).toNat (by omega)
        have hzA := hN.1.1.2.2.1 (D.adm i).toNat
        clear g4 g5
        cases hmr : m (D.rol i).toNat
        · have hN1 : NS w roles goal D l f g p m ch (CAcl D m (i + 1)) wr := hN.say fun _ h => cacl_step h fun hh => absurd (hmr.symm.trans hh) (by simp)
          rw [hmr] at hcR
          clear hN hc hcr hci hri hpl hmr hrule
          go_wp2
          go_roundw
          case rel => exact ⟨i + 1, m, ch, by omega, rfl, by go_num, hN1⟩
          case measure => simp [intOf]; omega
        · obtain ⟨X, m', ch', hstep, hmr', hN1⟩ : ∃ (X : World) (m' : Nat → Bool) (ch' : Bool), ((m (D.adm i).toNat = true ∧ X = wr ∧ ch' = ch) ∨ (m (D.adm i).toNat = false ∧ X = wr.setCell ⟨w.heap.size, (D.adm i).toNat, none⟩ (.bool true) ∧ ch' = true)) ∧ m' (D.rol i).toNat = true ∧ NS w roles goal D l f g p m' ch' (PreI D i m' 0) X := by
            cases hma : m (D.adm i).toNat
            · exact ⟨_, _, true, .inr ⟨rfl, rfl, rfl⟩, upd_mono hmr, hN.mark (by omega) hma fun s hs hy => (hs.1 i hil (hy _ hmr)).1⟩
            · exact ⟨wr, m, ch, .inl ⟨rfl, rfl, rfl⟩, hmr, hN.say fun _ h => ⟨h, hma, fun j hj => by omega⟩⟩
          have HR := (show Hid _ from hmr')
          rw [hmr] at hcR
          clear hN hmr hmr' hc
          rcases hstep with ⟨hma, rfl, rfl⟩ | ⟨hma, hX, rfl⟩
          · rw [hma] at hcA
            clear hma
            go_wp2
            go_loopw [11, 13] (fun c t wr => ∃ (j : Nat) (m : Nat → Bool) (ch : Bool), j ≤ D.pl i ∧ c = .bool ch ∧ t = .int .i64 j ∧ Hid (m (D.rol i).toNat = true) ∧ NS w roles goal D l f g p m ch (PreI D i m j) wr) (fun _ t _ => D.pl i - (intOf t).toNat)
            case atStart => exact ⟨0, m', _, Nat.zero_le _, rfl, rfl, HR, hN1⟩
            case round =>
              clear hN1 HR g1 g2 g3 hcR hcA hzA
              obtain ⟨j, m2, ch2, hjn, rfl, rfl, HR2, hN⟩ := hrel
              obtain ⟨pa2, pc2, k1, k2, k3, k4, k5⟩ := hrule.below hlt hN.1.1.1 (Nat.le_refl _)
              clear k4
              by_cases hjl : j < D.pl i
              · rcases k5 with k5 | ⟨pb, po, rfl, hpb, hcl⟩
                · omega
                obtain ⟨q1, q2⟩ := hcl j hjl
                obtain ⟨hj0, hj1⟩ := hlits j hjl
                have hcL := hN.1.2 (D.lit i j).toNat (by omega)
                have hzL := hN.1.1.2.2.1 (D.lit i j).toNat
                cases hml : m2 (D.lit i j).toNat
                · have hN1 : NS w roles goal D l f g p (upd m2 (D.lit i j).toNat) true (PreI D i (upd m2 (D.lit i j).toNat) (j + 1)) (wr.setCell ⟨w.heap.size, (D.lit i j).toNat, none⟩ (.bool true)) :=
                    hN.mark (by omega) hml fun s hs hy => (hs.1 i hil (hy _ HR2.out)).2 j hjl
                  have HR3 : Hid (upd m2 (D.lit i j).toNat (D.rol i).toNat = true) := upd_mono HR2.out
                  rw [hml] at hcL
                  clear hN hcl hcr hci hri hpl hml hrule hlits HR2
                  go_wp2
                  go_roundw
                  case rel => exact ⟨j + 1, _, true, by omega, rfl, by go_num, HR3, hN1⟩
                  case measure => simp [intOf]; omega
                · have hN1 : NS w roles goal D l f g p m2 ch2 (PreI D i m2 (j + 1)) wr := hN.say fun _ h => prei_step h hml
                  rw [hml] at hcL
                  clear hN hcl hcr hci hri hpl hml hrule hlits
                  go_wp2
                  go_roundw
                  case rel => exact ⟨j + 1, m2, ch2, by omega, rfl, by go_num, HR2, hN1⟩
                  case measure => simp [intOf]; omega
              · obtain e : j = D.pl i := by omega
                have hN1 : NS w roles goal D l f g p m2 ch2 (CAcl D m2 (i + 1)) wr := hN.say fun _ h => cacl_step h.1 fun _ => ⟨h.2.1, e ▸ h.2.2⟩
                have HE := (show Hid _ from e)
                clear e hN k5 hcr hci hri hpl hrule hlits HR2
                go_wp2
                go_roundw
                case rel => exact ⟨i + 1, m2, ch2, by omega, rfl, by go_num, hN1⟩
                case measure => simp [intOf]; omega
          · rw [hma] at hcA
            clear hma
            go_wp2
            rw [← hX]
            clear hX
            go_loopw [11, 13] (fun c t wr => ∃ (j : Nat) (m : Nat → Bool) (ch : Bool), j ≤ D.pl i ∧ c = .bool ch ∧ t = .int .i64 j ∧ Hid (m (D.rol i).toNat = true) ∧ NS w roles goal D l f g p m ch (PreI D i m j) wr) (fun _ t _ => D.pl i - (intOf t).toNat)
            case atStart => exact ⟨0, m', _, Nat.zero_le _, rfl, rfl, HR, hN1⟩
            case round =>
              clear hN1 HR g1 g2 g3 hcR hcA hzA
              obtain ⟨j, m2, ch2, hjn, rfl, rfl, HR2, hN⟩ := hrel
              obtain ⟨pa2, pc2, k1, k2, k3, k4, k5⟩ := hrule.below hlt hN.1.1.1 (Nat.le_refl _)
              clear k4
              by_cases hjl : j < D.pl i
              · rcases k5 with k5 | ⟨pb, po, rfl, hpb, hcl⟩
                · omega
                obtain ⟨q1, q2⟩ := hcl j hjl
                obtain ⟨hj0, hj1⟩ := hlits j hjl
                have hcL := hN.1.2 (D.lit i j).toNat (by omega)
                have hzL := hN.1.1.2.2.1 (D.lit i j).toNat
                cases hml : m2 (D.lit i j).toNat
                · have hN1 : NS w roles goal D l f g p (upd m2 (D.lit i j).toNat) true (PreI D i (upd m2 (D.lit i j).toNat) (j + 1)) (wr.setCell ⟨w.heap.size, (D.lit i j).toNat, none⟩ (.bool true)) :=
                    hN.mark (by omega) hml fun s hs hy => (hs.1 i hil (hy _ HR2.out)).2 j hjl
                  have HR3 : Hid (upd m2 (D.lit i j).toNat (D.rol i).toNat = true) := upd_mono HR2.out
                  rw [hml] at hcL
                  clear hN hcl hcr hci hri hpl hml hrule hlits HR2
                  go_wp2
                  go_roundw
                  case rel => exact ⟨j + 1, _, true, by omega, rfl, by go_num, HR3, hN1⟩
                  case measure => simp [intOf]; omega
                · have hN1 : NS w roles goal D l f g p m2 ch2 (PreI D i m2 (j + 1)) wr := hN.say fun _ h => prei_step h hml
                  rw [hml] at hcL
                  clear hN hcl hcr hci hri hpl hml hrule hlits
                  go_wp2
                  go_roundw
                  case rel => exact ⟨j + 1, m2, ch2, by omega, rfl, by go_num, HR2, hN1⟩
                  case measure => simp [intOf]; omega
              · obtain e : j = D.pl i := by omega
                have hN1 : NS w roles goal D l f g p m2 ch2 (CAcl D m2 (i + 1)) wr := hN.say fun _ h => cacl_step h.1 fun _ => ⟨h.2.1, e ▸ h.2.2⟩
                have HE := (show Hid _ from e)
                clear e hN k5 hcr hci hri hpl hrule hlits HR2
                go_wp2
                go_roundw
                case rel => exact ⟨i + 1, m2, ch2, by omega, rfl, by go_num, hN1⟩
                case measure => simp [intOf]; omega
      · obtain e : i = D.n := by omega
        have hN1 : NS w roles goal D l f g p m ch (CAcl D m D.n ∧ CRcl f g m 0) wr := hN.say fun _ h => ⟨e ▸ h, fun i hi => by omega⟩
        clear hN
        have HE := (show Hid _ from e)
        clear e
        go_wp2
        go_loopw [11, 14] (fun c t wr => ∃ (i : Nat) (m : Nat → Bool) (ch : Bool), i ≤ l ∧ c = .bool ch ∧ t = .int .i64 i ∧ NS w roles goal D l f g p m ch (CAcl D m D.n ∧ CRcl f g m i) wr) (fun _ t _ => l - (intOf t).toNat)
        case atStart => exact ⟨0, _, ch, Nat.zero_le _, rfl, rfl, hN1⟩
        case round =>
          clear hN1 HE hil hin
          obtain ⟨i, m, ch, hin, rfl, rfl, hN⟩ := hrel
          by_cases hil : i < l
          · have hri' := hri i hil
            obtain ⟨⟨hf0, hf1⟩, hg0, hg1⟩ := hri'
            rcases hcr.below hN.1.1.1 (Nat.le_refl _) with h0 | ⟨b, off, rfl, hlt, hc⟩
            · omega
            obtain ⟨g1, g2⟩ := hc i hil
            have hcG := hN.1.2 (g i).toNat (by omega)
            have hcF := hN.1.2 (f i).toNat (by omega)
            have hzF := hN.1.1.2.2.1 (f i).toNat
            cases hmg : m (g i).toNat
            · have hN1 : NS w roles goal D l f g p m ch (CAcl D m D.n ∧ CRcl f g m (i + 1)) wr := hN.say fun _ h => ⟨h.1, crcl_step h.2 fun hh => absurd (hmg.symm.trans hh) (by simp)⟩
              rw [hmg] at hcG
              clear hN hc hca hcr hci hri hpl hmg
              go_wp2
              go_roundw
              case rel => exact ⟨i + 1, m, ch, by omega, rfl, by go_num, hN1⟩
              case measure => simp [intOf]; omega
            · cases hmf : m (f i).toNat
              · have hN1 : NS w roles goal D l f g p (upd m (f i).toNat) true (CAcl D (upd m (f i).toNat) D.n ∧ CRcl f g (upd m (f i).toNat) (i + 1)) (wr.setCell ⟨w.heap.size, (f i).toNat, none⟩ (.bool true)) :=
                  hN.mark (by omega) hmf fun s hs hy => hs.2 i hil (hy _ hmg)
                rw [hmg] at hcG
                rw [hmf] at hcF
                clear hN hc hca hcr hci hri hpl hmg hmf
                go_wp2
                go_roundw
                case rel => exact ⟨i + 1, _, true, by omega, rfl, by go_num, hN1⟩
                case measure => simp [intOf]; omega
              · have hN1 : NS w roles goal D l f g p m ch (CAcl D m D.n ∧ CRcl f g m (i + 1)) wr := hN.say fun _ h => ⟨h.1, crcl_step h.2 fun _ => hmf⟩
                rw [hmg] at hcG
                rw [hmf] at hcF
                clear hN hc hca hcr hci hri hpl hmg hmf
                go_wp2
                go_roundw
                case rel => exact ⟨i + 1, m, ch, by omega, rfl, by go_num, hN1⟩
                case measure => simp [intOf]; omega
          · obtain e : i = l := by omega
            have hN1 : NS w roles goal D l f g p m ch (CAcl D m D.n ∧ CRcl f g m l) wr := hN.say fun _ h => ⟨h.1, e ▸ h.2⟩
            have HE := (show Hid _ from e)
            clear e hN
            cases ch
            · go_wp2
              go_ret
              exact ⟨m, rfl, hN1.1, hN1.2.1, hN1.2.2.2.2.2 rfl, hN1.2.2.1⟩
            · have hN2 : NS w roles goal D l f g (p + 1) m false True wr := ⟨hN1.1, hN1.2.1, hN1.2.2.1, hN1.2.2.2.2.1 rfl, (by intro h; cases h), fun _ => trivial⟩
              clear hN1
              go_wp2
              go_roundw
              case rel => exact ⟨p + 1, m, by go_num, hN2⟩
              case measure => simp [intOf]; omega
end Go.Proofs.Qxb6605479a
