/-
  mattering: contract: the least closed set.
-/
import Derived.Test.Qxb6605479aFam
import Derived.Deep.RegionLaw
import Derived.Deep.LoopGhost
namespace Go.Proofs.Qxb6605479a
open Go.RowKit

/-- A rule copied into a block of its own. -/
theorem box_any {w wr X : World} {r q : Nat} {v u : Value} {cs : Array Value} {t : TypeId} (hX : X = wr.alloc (Obj.cells cs t)) (hq : cs[q]? = some u) (hs : w.heap.size < wr.heap.size) (hc : wr.cell? ⟨w.heap.size, r, none⟩ = some v) (hf : wr.frozen? ⟨w.heap.size, r, none⟩ = false) :
    X.cell? ⟨wr.heap.size, q, none⟩ = some u ∧ X.cell? ⟨w.heap.size, r, none⟩ = some v ∧ X.frozen? ⟨w.heap.size, r, none⟩ = false ∧ w.heap.size < X.heap.size ∧ Below wr.heap.size wr X ∧ wr.heap.size < X.heap.size := by
  have hb : Below wr.heap.size wr X := by rw [hX]; exact (Below.refl _ _).alloc (Nat.le_refl _) _
  refine ⟨by rw [hX, World.cell?_alloc_new]; exact hq, (hb.cell (by exact hs)).trans hc, (hb.frozen (by exact hs)).trans hf, Nat.lt_of_lt_of_le hs hb.size, hb, by rw [hX]; simp⟩

/-- Behind the append: the rule's copy and the family's cell are as they were. -/
theorem fam_far {X w1 : World} {A R r q : Nat} {v v2 : Value} {row : Option Nat} {o : Obj} (hR : R < X.heap.size) (hA : A < X.heap.size) (h1 : X.cell? ⟨R, q, none⟩ = some v2) (h2 : X.cell? ⟨A, r, none⟩ = some v) (h3 : X.frozen? ⟨A, r, none⟩ = false)
    (n1 : some R ≠ row) (n2 : some A ≠ row) (hg : ((X.alloc o).drew).grownBy w1 row) :
    w1.cell? ⟨R, q, none⟩ = some v2 ∧ w1.cell? ⟨A, r, none⟩ = some v ∧ w1.frozen? ⟨A, r, none⟩ = false := by
  have hb : Below X.heap.size X ((X.alloc o).drew) := ((Below.refl _ _).alloc (Nat.le_refl _) o).drew
  have hs := hb.size
  exact ⟨(hg.cell_far _ (by show R < _; omega) n1).trans ((hb.cell (by exact hR)).trans h1), (hg.cell_far _ (by show A < _; omega) n2).trans ((hb.cell (by exact hA)).trans h2), (hg.frozen_far _ (by show A < _; omega) n2).trans ((hb.frozen (by exact hA)).trans h3)⟩

/-- One round of the filling. -/
theorem fam_step {w wr X w1 : World} {roles : Nat} {rol : Nat → Int} {V : Nat → Value} {v : Value} {k gg cap : Nat} {o : Obj} (HF : FamV w roles (asg rol k) V wr) (HV : v = V (rol k).toNat) (hr : (rol k).toNat < roles) (hX : Below wr.heap.size wr X)
    (hg : ((X.alloc o).drew).grownBy w1 v.ownBlock)
    (hown : w1.ownsRow (w.heap.size + 1) 3 1 (.slice (some ⟨gg, 0, none⟩) ((asg rol k (rol k).toNat).length + 1) cap) ((asg rol k (rol k).toNat).length + 1) (nats (asg rol k (rol k).toNat) ++ [.int .i64 (k : Int)]))
    (hat : v.ownBlock = some gg ∨ gg = X.heap.size + 1) :
    Fam w roles (asg rol (k + 1)) (w1.setCell ⟨w.heap.size, (rol k).toNat, none⟩ (.slice (some ⟨gg, 0, none⟩) ((asg rol k (rol k).toNat).length + 1) cap)) := by
  subst HV
  have hb : Below wr.heap.size wr ((X.alloc o).drew) := (hX.alloc hX.size o).drew
  refine HF.push hr hb hg hown ?_ (by simp [asg]) (fun s hs => by simp [asg, Ne.symm hs])
  rcases hat with h | h
  · exact .inl h
  · exact .inr (by rw [h]; simp)

theorem Fam.below {w wr : World} {roles : Nat} {rows : Nat → List Nat} (h : Fam w roles rows wr) : Below w.heap.size w wr := by obtain ⟨V, o, _⟩ := h; exact o.1
theorem Fam.lt {w wr : World} {roles : Nat} {rows : Nat → List Nat} (h : Fam w roles rows wr) : w.heap.size < wr.heap.size := by obtain ⟨V, o, _⟩ := h; exact o.2.1

theorem St.below {w3 wr : World} {Bm Bf roles : Nat} {m : Nat → Bool} {fs : List Int} (h : St w3 Bm Bf roles m fs wr) : Below w3.heap.size w3 wr := h.2.1.1.1

/-- A new block leaves the work list as it was. -/
theorem St.alloc {w3 wr : World} {Bm Bf roles : Nat} {m : Nat → Bool} {fs : List Int} (h : St w3 Bm Bf roles m fs wr) (o : Obj) : St w3 Bm Bf roles m fs (wr.alloc o) := by
  obtain ⟨⟨hBm, hBf⟩, a1, a2, a3, a4, ao, cap, a5, a6⟩ := h
  have hb : Below wr.heap.size wr (wr.alloc o) := (Below.refl _ _).alloc (Nat.le_refl _) o
  have hlt := a1.1.2.1
  refine ⟨⟨hBm, hBf⟩, ⟨⟨a1.1.1.alloc (Nat.le_of_lt hlt) o, Nat.lt_of_lt_of_le hlt hb.size, fun q => (hb.frozen (by exact hlt)).trans (a1.1.2.2.1 q), fun q hq => by rw [hb.cell (by exact hlt)]; exact a1.1.2.2.2 q hq⟩, fun x hx => (hb.cell (by exact hlt)).trans (a1.2 x hx)⟩, ?_, by simp; omega, ?_, ao, cap, ?_, a6.alloc o⟩
  · exact (hb.cell (by show Bm < _; omega)).trans a2
  · exact (hb.frozen (by show Bf < _; omega)).trans a4
  · exact (hb.cell (by show Bf < _; omega)).trans a5

/-- The state within one round of the work list, role r being worked off; 'K' the measure to be met. -/
def LS (w3 : World) (Bm Bf roles goal : Nat) (D : Rules) (l : Nat) (f g : Nat → Int) (r K : Nat) (m : Nat → Bool) (fs : List Int) (wr : World) : Prop :=
  St w3 Bm Bf roles m fs wr ∧ WL roles goal D l f g m fs (fun x => x = r) ∧ m goal = true ∧ m r = true ∧ mu roles m fs + 1 = K

def RuleDone (D : Rules) (m : Nat → Bool) (i : Nat) : Prop := m (D.adm i).toNat = true ∧ ∀ j, j < D.pl i → m (D.lit i j).toNat = true
theorem RuleDone.mono {D : Rules} {m m' : Nat → Bool} {i : Nat} (h : RuleDone D m i) (hm : ∀ y, m y = true → m' y = true) : RuleDone D m' i := ⟨hm _ h.1, fun j hj => hm _ (h.2 j hj)⟩

/-- The first k rules of the list are done. -/
def Done4 (D : Rules) (xs : List Nat) (k : Nat) (m : Nat → Bool) : Prop := ∀ k', k' < k → RuleDone D m (xs.getD k' 0)
def Done5 (D : Rules) (xs : List Nat) (k : Nat) (i j : Nat) (m : Nat → Bool) : Prop := Done4 D xs k m ∧ m (D.adm i).toNat = true ∧ ∀ j', j' < j → m (D.lit i j').toNat = true
def Done6 (D : Rules) (ys : List Nat) (f : Nat → Int) (k : Nat) (xs : List Nat) (m : Nat → Bool) : Prop := Done4 D xs xs.length m ∧ ∀ k', k' < k → m (f (ys.getD k' 0)).toNat = true

theorem Done4.mono {D : Rules} {xs : List Nat} {k : Nat} {m m' : Nat → Bool} (h : Done4 D xs k m) (hm : ∀ y, m y = true → m' y = true) : Done4 D xs k m' := fun k' hk => (h k' hk).mono hm
theorem Done5.step {D : Rules} {xs : List Nat} {k i j : Nat} {m m' : Nat → Bool} (h : Done5 D xs k i j m) (hm : ∀ y, m y = true → m' y = true) (hj : m' (D.lit i j).toNat = true) : Done5 D xs k i (j + 1) m' :=
  ⟨h.1.mono hm, hm _ h.2.1, fun j' hj' => by
    by_cases e : j' = j
    · subst e; exact hj
    · exact hm _ (h.2.2 j' (by omega))⟩
theorem Done5.fin {D : Rules} {xs : List Nat} {k i : Nat} {m : Nat → Bool} (h : Done5 D xs k i (D.pl i) m) (hi : i = xs.getD k 0) : Done4 D xs (k + 1) m := fun k' hk => by
  by_cases e : k' = k
  · subst e; rw [← hi]; exact ⟨h.2.1, h.2.2⟩
  · exact h.1 k' (by omega)
theorem Done6.step {D : Rules} {xs ys : List Nat} {f : Nat → Int} {k : Nat} {m m' : Nat → Bool} (h : Done6 D ys f k xs m) (hm : ∀ y, m y = true → m' y = true) (hj : m' (f (ys.getD k 0)).toNat = true) : Done6 D ys f (k + 1) xs m' :=
  ⟨h.1.mono hm, fun k' hk => by
    by_cases e : k' = k
    · subst e; exact hj
    · exact hm _ (h.2 k' (by omega))⟩

theorem getD_mem {xs : List Nat} {k : Nat} (h : k < xs.length) : xs.getD k 0 ∈ xs := by
  simp [List.getD, List.getElem?_eq_getElem h]
theorem mem_getD {xs : List Nat} {i : Nat} (h : i ∈ xs) : ∃ k, k < xs.length ∧ xs.getD k 0 = i := by
  obtain ⟨k, hk, e⟩ := List.getElem_of_mem h
  exact ⟨k, hk, by simp [List.getD, List.getElem?_eq_getElem hk, e]⟩

/-- Role r is worked off. -/
theorem LS.done {w3 : World} {Bm Bf roles goal : Nat} {D : Rules} {l : Nat} {f g : Nat → Int} {r K : Nat} {m : Nat → Bool} {fs : List Int} {wr : World} (h : LS w3 Bm Bf roles goal D l f g r K m fs wr)
    (hd : Done6 D (asg g l r) f (asg g l r).length (asg D.rol D.n r) m) : WL roles goal D l f g m fs fun _ => False := by
  refine h.2.1.done (fun i hi e => ?_) (fun i hi e => ?_)
  · obtain ⟨k, hk, e'⟩ := mem_getD (mem_asg.2 ⟨hi, e⟩)
    have := hd.1 k hk
    rw [e'] at this
    exact this
  · obtain ⟨k, hk, e'⟩ := mem_getD (mem_asg.2 ⟨hi, e⟩)
    have := hd.2 k hk
    rw [e'] at this
    exact this

/-- One call of 'mark' within the round. -/
theorem mark_ls {w3 wr : World} {Bm Bf roles goal : Nat} {D : Rules} {l : Nat} {f g : Nat → Int} {r K : Nat} {m : Nat → Bool} {fs : List Int} (z : Int) (h0 : 0 ≤ z) (h1 : z < roles) (hro : roles ≤ 65536)
    (h : LS w3 Bm Bf roles goal D l f g r K m fs wr) (hr : ∀ s : Nat → Prop, Closed D l f g s → (∀ y, m y = true → s y) → s z.toNat) (W : World) (hW : W = wr ∨ ∃ o, W = wr.alloc o) :
    Calls Try.prog 45 #[.int .i64 z, .pointer (some ⟨Bm, 0, none⟩), .pointer (some ⟨Bf, 0, none⟩)] W fun e w' =>
      e = .returned (.tuple #[]) ∧ ∃ m' fs', LS w3 Bm Bf roles goal D l f g r K m' fs' w' ∧ m' z.toNat = true ∧ ∀ y, m y = true → m' y = true := by
  obtain ⟨a1, a2, a3, a4, a5⟩ := h
  have hS : St w3 Bm Bf roles m fs W := by
    rcases hW with rfl | ⟨o, rfl⟩
    · exact a1
    · exact a1.alloc o
  refine (mark_any z h0 h1 hro hS a2 fun s _ hc hy => hr s hc hy).mono ?_
  rintro e w' ⟨rfl, m', fs', b1, b2, b3, b4, b5⟩
  exact ⟨rfl, m', fs', ⟨b1, b2, b4 _ a3, b4 _ a4, by omega⟩, b3, b4⟩

theorem last_or (fs : List Int) : fs = [] ∨ ∃ fs' z, fs = fs' ++ [z] := by
  rcases List.eq_nil_or_concat fs with h | ⟨a, b, h⟩
  · exact .inl h
  · exact .inr ⟨a, b, by simpa using h⟩

set_option maxRecDepth 100000 in
set_option maxHeartbeats 8000000 in
theorem matter_any (goal roles : Nat) (a0 : Option Addr) (cap0 : Nat) (D : Rules) (a1 : Option Addr) (l cap1 : Nat) (f g : Nat → Int) (w : World)
    (hr : roles ≤ 65536) (hg : goal < roles) (hn : D.n ≤ 65536) (hpl : ∀ i, i < D.n → D.pl i ≤ 65536) (hl : l ≤ 65536)
    (hca : CAat w.heap.size w a0 D) (hcr : PairsAt w.heap.size w a1 l f g) (hci : RulesIn D.n D roles) (hri : PairsIn l f g roles) :
    Calls Try.prog 42 #[.int .i64 goal, .int .i64 roles, .slice a0 D.n cap0, .slice a1 l cap1] w fun e w' => ∃ m M, e = .returned (.slice (some ⟨M, 0, none⟩) roles roles) ∧ BoolsAt w'.heap.size w' (some ⟨M, 0, none⟩) roles m ∧ Least D l f g goal m ∧ Below w.heap.size w w' := by
  obtain ⟨i0, hi, hz0, hz1, hz2⟩ := info_parts Try.info64
  have hb8 : i0.bytes * roles ≤ 281474976710656 := by rw [hz2]; omega
  have hml : roles ≤ maxLen := by unfold maxLen; omega
  obtain ⟨j0, hj, hy0, hy1, hy2⟩ := info_parts Try.info3
  obtain ⟨b0, hbi, hbz0, hbz1, hbz2⟩ := info_parts Try.info4
  have hb4 : b0.bytes * roles ≤ 281474976710656 := by rw [hbz2]; omega
  go_enter Try.func42, Try.ntmps42
  go_wp2_with (at_make; refine wpList_make_full _ rfl _ _ 77 rfl w.heap.size 64 i0 (.slice none 0 0) 1 Try.underlying77 hi hz0 hz1 .i64 .i64 roles roles roles rfl rfl rfl rfl hb8 hml (Nat.le_refl _) ?_; intro w1 hown hgrow; have hF := fam_start D.rol hown hgrow; clear hown hgrow)
  go_loopw [29] (fun t wr => ∃ k : Nat, k ≤ D.n ∧ t = .int .i64 k ∧ Fam w roles (asg D.rol k) wr) (fun t _ => D.n - (intOf t).toNat)
  case atStart => exact ⟨0, Nat.zero_le _, rfl, hF⟩
  case round =>
    clear hF
    obtain ⟨k, hk, rfl, hF⟩ := hrel
    by_cases hkl : k < D.n
    · obtain ⟨⟨ha0, ha1⟩, ⟨hr0, hr1⟩, hlits⟩ := hci k hkl
      obtain ⟨V, hFV⟩ := hF
      rcases hca.below hFV.1.1 (Nat.le_refl _) with h0 | ⟨b, off, rfl, hlt, hc⟩
      · omega
      obtain ⟨pa, pc, g1, g2, g3, g4, g5⟩ := hc k hkl
      obtain ⟨cv, ov⟩ := hFV.2.1 (D.rol k).toNat (by omega)
      have hfz := hFV.1.2.2.1 (D.rol k).toNat
      have hsz := hFV.1.2.1
      have hrow : ∀ gq, (V (D.rol k).toNat).ownBlock = some gq → w.heap.size + 1 ≤ gq ∧ gq < wr.heap.size := fun gq hq => ov.lt gq hq
      have hl1 := asg_len D.rol k (D.rol k).toNat
      have HF := (show Hid (FamV w roles (asg D.rol k) V wr) from hFV)
      have HO := (show Hid (wr.ownsRow (w.heap.size + 1) 3 1 (V (D.rol k).toNat) (asg D.rol k (D.rol k).toNat).length (nats (asg D.rol k (D.rol k).toNat))) from ov)
      have HR := (show Hid _ from hrow)
      clear hFV hc hcr hci hri hpl ov hrow hbi hbz0 hbz1 hbz2 hb4 g4 g5 hlits
      go_wp2
      obtain ⟨X, hX⟩ : ∃ X, X = wr.alloc (Obj.cells #[Value.int .i64 (D.adm k), Value.slice pa (D.pl k) pc, Value.int .i64 (D.rol k)] 72) := ⟨_, rfl⟩
      rw [← hX]
      obtain ⟨x1, x2, x3, x4, x5, x6⟩ := box_any (q := 2) hX rfl hsz cv hfz
      have HOX := (show Hid _ from ownsRow_below HO.out x5)
      have hne1 : some wr.heap.size ≠ (V (D.rol k).toNat).ownBlock := fun e => by have := (HR.out _ e.symm).2; omega
      have hne2 : some w.heap.size ≠ (V (D.rol k).toNat).ownBlock := fun e => by have := (HR.out _ e.symm).1; omega
      obtain ⟨v, hv⟩ : ∃ v, v = V (D.rol k).toNat := ⟨_, rfl⟩
      rw [← hv] at cv x2 hne1 hne2 HOX
      have HV := (show Hid _ from hv)
      clear hX hv HR HO g1 g2 cv hfz g3 hca
      go_region_law ((refine step_append_lies _ (by rfl) _ _ _ (by rfl) (w.heap.size + 1) 3 j0 (.int .i64 0) 1 8 Try.underlying64 hj hy0 hy1 hy2 rfl (by omega) v (asg D.rol k (D.rol k).toNat).length (nats (asg D.rol k (D.rol k).toNat)) (by rfl) (World.ownsRow.drew (World.ownsRow.alloc HOX.out _)) ⟨X.heap.size, 0, none⟩ 1 1 [.int .i64 (k : Int)] (by rfl) (by rfl) (World.news_of_block (cs := #[.int .i64 (k : Int)]) (t := 3) (fr := (0, 0)) (heap_alloc_new X _)) (by simp [Value.oneCell']) (by omega) (by unfold maxLen; omega) (by omega) (by simp; omega) (X.heap.size + 1) (by simp) ?_; intro gg cap w1 hown1 hgrow hat hlt1; have hff := fam_far x6 x4 x1 x2 x3 hne1 hne2 hgrow; have hf1 := hff.1; have hf2 := hff.2.1; have hf3 := hff.2.2; clear hff))
      all_goals
        go_wp2
        go_roundw
        case rel => exact ⟨k + 1, by omega, by go_num, fam_step HF.out HV.out (by omega) x5 hgrow hown1 hat⟩
        case measure => simp [intOf]; omega
    · have e : k = D.n := by omega
      rw [e] at hF
      have HE := (show Hid _ from e)
      clear e
      obtain ⟨w2, rfl⟩ : ∃ w2 : World, w2 = wr := ⟨_, rfl⟩
      have hA := hF.reads
      have hb2 : Below w.heap.size w w2 := hF.below
      clear hF
      go_wp2_with (at_make; refine wpList_make_full _ rfl _ _ 77 rfl w2.heap.size 64 i0 (.slice none 0 0) 1 Try.underlying77 hi hz0 hz1 .i64 .i64 roles roles roles rfl rfl rfl rfl hb8 hml (Nat.le_refl _) ?_; intro w1' hown hgrow; have hF := fam_start g hown hgrow; clear hown hgrow)
      go_loopw [51] (fun t wr => ∃ k : Nat, k ≤ l ∧ t = .int .i64 k ∧ Fam w2 roles (asg g k) wr) (fun t _ => l - (intOf t).toNat)
      case atStart => exact ⟨0, Nat.zero_le _, rfl, hF⟩
      case round =>
        clear hF HE hkl hk
        obtain ⟨k, hk, rfl, hF⟩ := hrel
        by_cases hkl : k < l
        · obtain ⟨⟨ha0, ha1⟩, hr0, hr1⟩ := hri k hkl
          obtain ⟨V, hFV⟩ := hF
          rcases hcr.below (hb2.trans (hFV.1.1.mono hb2.size)) (Nat.le_refl _) with h0 | ⟨b, off, rfl, hlt, hc⟩
          · omega
          obtain ⟨g1, g2⟩ := hc k hkl
          obtain ⟨cv, ov⟩ := hFV.2.1 (g k).toNat (by omega)
          have hfz := hFV.1.2.2.1 (g k).toNat
          have hsz := hFV.1.2.1
          have hrow : ∀ gq, (V (g k).toNat).ownBlock = some gq → w2.heap.size + 1 ≤ gq ∧ gq < wr.heap.size := fun gq hq => ov.lt gq hq
          have hl1 := asg_len g k (g k).toNat
          have HF := (show Hid (FamV w2 roles (asg g k) V wr) from hFV)
          have HO := (show Hid (wr.ownsRow (w2.heap.size + 1) 3 1 (V (g k).toNat) (asg g k (g k).toNat).length (nats (asg g k (g k).toNat))) from ov)
          have HR := (show Hid _ from hrow)
          clear hFV hc hcr hci hri hpl ov hrow hbi hbz0 hbz1 hbz2 hb4 hA hca hb2
          go_wp2
          obtain ⟨X, hX⟩ : ∃ X, X = wr.alloc (Obj.cells #[Value.int .i64 (f k), Value.int .i64 (g k)] 69) := ⟨_, rfl⟩
          rw [← hX]
          obtain ⟨x1, x2, x3, x4, x5, x6⟩ := box_any (q := 1) hX rfl hsz cv hfz
          have HOX := (show Hid _ from ownsRow_below HO.out x5)
          have hne1 : some wr.heap.size ≠ (V (g k).toNat).ownBlock := fun e => by have := (HR.out _ e.symm).2; omega
          have hne2 : some w2.heap.size ≠ (V (g k).toNat).ownBlock := fun e => by have := (HR.out _ e.symm).1; omega
          obtain ⟨v, hv⟩ : ∃ v, v = V (g k).toNat := ⟨_, rfl⟩
          rw [← hv] at cv x2 hne1 hne2 HOX
          have HV := (show Hid _ from hv)
          clear hX hv HR HO g1 g2 cv hfz
          go_region_law ((refine step_append_lies _ (by rfl) _ _ _ (by rfl) (w2.heap.size + 1) 3 j0 (.int .i64 0) 1 8 Try.underlying64 hj hy0 hy1 hy2 rfl (by omega) v (asg g k (g k).toNat).length (nats (asg g k (g k).toNat)) (by rfl) (World.ownsRow.drew (World.ownsRow.alloc HOX.out _)) ⟨X.heap.size, 0, none⟩ 1 1 [.int .i64 (k : Int)] (by rfl) (by rfl) (World.news_of_block (cs := #[.int .i64 (k : Int)]) (t := 3) (fr := (0, 0)) (heap_alloc_new X _)) (by simp [Value.oneCell']) (by omega) (by unfold maxLen; omega) (by omega) (by simp; omega) (X.heap.size + 1) (by simp) ?_; intro gg cap w1 hown1 hgrow hat hlt1; have hff := fam_far x6 x4 x1 x2 x3 hne1 hne2 hgrow; have hf1 := hff.1; have hf2 := hff.2.1; have hf3 := hff.2.2; clear hff))
          all_goals
            go_wp2
            go_roundw
            case rel => exact ⟨k + 1, by omega, by go_num, fam_step HF.out HV.out (by omega) x5 hgrow hown1 hat⟩
            case measure => simp [intOf]; omega
        · have e : k = l := by omega
          rw [e] at hF
          have HE := (show Hid _ from e)
          clear e
          obtain ⟨w3, rfl⟩ : ∃ w3 : World, w3 = wr := ⟨_, rfl⟩
          have hR := hF.reads
          replace hA := hA.below hF.below (Nat.le_of_lt hF.lt)
          have hb3 : Below w.heap.size w w3 := hb2.trans (hF.below.mono hb2.size)
          have hA3 := hF.lt
          clear hF hb2
          go_wp2_with (at_make; refine wpList_make_full _ rfl _ _ 23 rfl w3.heap.size 4 b0 (.bool false) 1 Try.underlying23 hbi hbz0 hbz1 .i64 .i64 roles roles roles rfl rfl rfl rfl hb4 hml (Nat.le_refl _) ?_; intro w4 hown hgrow; have hM := mrow_start hown hgrow; clear hown hgrow)
          obtain ⟨X, hX⟩ : ∃ X, X = (w4.alloc (Obj.cells #[Value.slice (some ⟨w3.heap.size, 0, none⟩) roles roles] 23)).alloc (Obj.cells #[Value.slice none 0 0] 64) := ⟨_, rfl⟩
          rw [← hX]
          have hS := st_start hM hX
          have hM4 := hM.1.2.1
          clear hX hM hi hz0 hz1 hz2 hb8 hj hy0 hy1 hy2 hbi hbz0 hbz1 hbz2 hb4 HE hk hkl
          refine (mark_any (E := fun _ => False) (goal : Int) (by omega) (by omega) hr hS (wl_start roles goal D l f g _) (fun s hs _ _ => by simpa using hs)).mono ?_
          rintro e w5 ⟨rfl, m, fs, hS5, hW5, hE5⟩
          have hgm : m goal = true := by simpa using hE5.1
          clear hE5 hS
          obtain ⟨_, a1, a2, a3, a4, ao, cap, a5, a6⟩ := id hS5
          clear a1 a3 a4 a6
          go_wp2
          clear a2 a5
          go_loopg [18] (mu roles m fs) (fun kk t wr => ∃ (m : Nat → Bool) (fs : List Int), St w3 w4.heap.size (w4.heap.size + 1) roles m fs wr ∧ WL roles goal D l f g m fs (fun _ => False) ∧ m goal = true ∧ mu roles m fs = kk)
          case atStart => exact ⟨m, fs, hS5, hW5, hgm, rfl⟩
          case round =>
            clear hS5 hW5 hgm
            obtain ⟨m, fs, hS, hW, hgm, hmu⟩ := hrel
            rcases last_or fs with rfl | ⟨fs', z, rfl⟩
            · obtain ⟨_, a1, a2, a3, a4, ao, cap, a5, a6⟩ := id hS
              have a5' : wr.cell? ⟨w4.heap.size + 1, 0, none⟩ = some (.slice ao 0 cap) := a5
              have HL := (show Hid _ from hW.least hgm)
              have HB := (show Hid (BoolsAt wr.heap.size wr (some ⟨w3.heap.size, 0, none⟩) roles m) from .inr ⟨w3.heap.size, 0, rfl, a1.1.2.1, fun x hx => by simpa using a1.2 x hx⟩)
              have HW := (show Hid _ from hb3.trans (hS.below.mono hb3.size))
              clear a1 a3 a4 a5 a6 hS hW hmu hA hR hca hcr hci hri hpl
              go_wp2
              go_ret
              exact ⟨m, _, rfl, HB.out, HL.out, HW.out⟩
            · obtain ⟨gb, cap, c1, c2, c3, hcap, hS1⟩ := hS.top
              obtain ⟨hW1, hz0, hz1, hmz, hmu1⟩ := hW.top
              have hfl : fs'.length + 1 ≤ 65536 := by have h1 := hW.2.2.1; have h2 := cnt_le m roles; simp at h1; omega
              obtain ⟨ad, cp, cA, eA⟩ := hA.2 z.toNat (by omega)
              obtain ⟨rd, rp, cR, eR⟩ := hR.2 z.toNat (by omega)
              have lA := hA.1
              have lR := hR.1
              have dA : wr.cell? ⟨w.heap.size, z.toNat, none⟩ = some (.slice ad (asg D.rol D.n z.toNat).length cp) := (hS.below.cell (by exact lA)).trans cA
              have nA : ¬ w4.heap.size + 1 = w.heap.size := by omega
              have nA' : ¬ w.heap.size = w4.heap.size + 1 := by omega
              have hLS : LS w3 w4.heap.size (w4.heap.size + 1) roles goal D l f g z.toNat gk m fs' (wr.setCell ⟨w4.heap.size + 1, 0, none⟩ (.slice (some ⟨gb, 0, none⟩) fs'.length cap)) := ⟨hS1, hW1, hgm, hmz, by omega⟩
              have HLS := (show Hid _ from hLS)
              have HD := (show Hid (Done4 D (asg D.rol D.n z.toNat) 0 m) from fun k hk => by omega)
              clear hLS hS hS1 hW hW1 hgm hmz hmu hmu1 hA hR lA lR
              go_wp2
              go_loopw [94] (fun t wr => ∃ (k : Nat) (m : Nat → Bool) (fs : List Int), k ≤ (asg D.rol D.n z.toNat).length ∧ t = .int .i64 k ∧ LS w3 w4.heap.size (w4.heap.size + 1) roles goal D l f g z.toNat gk m fs wr ∧ Hid (Done4 D (asg D.rol D.n z.toNat) k m)) (fun t _ => (asg D.rol D.n z.toNat).length - (intOf t).toNat)
              case atStart => exact ⟨0, m, fs', Nat.zero_le _, rfl, HLS.out, HD⟩
              case round =>
                clear HLS HD c1 c2 c3 dA hfl hcap
                obtain ⟨k, m, fs, hk, rfl, hLS, HD⟩ := hrel
                have hlen := asg_len D.rol D.n z.toNat
                by_cases hkl : k < (asg D.rol D.n z.toNat).length
                · rcases eA with e | ⟨gb2, rfl, hgb2, hel⟩
                  · omega
                  obtain ⟨hin, hirol⟩ := mem_asg.1 (getD_mem hkl)
                  have cE : wr.cell? ⟨gb2, k, none⟩ = some (.int .i64 (((asg D.rol D.n z.toNat).getD k 0 : Nat) : Int)) := (hLS.1.below.cell (by exact hgb2)).trans (hel k hkl)
                  obtain ⟨i, hie⟩ : ∃ i, i = (asg D.rol D.n z.toNat).getD k 0 := ⟨_, rfl⟩
                  rw [← hie] at cE hin hirol
                  have HI := (show Hid _ from hie)
                  have HIR := (show Hid _ from hirol)
                  obtain ⟨⟨ha0, ha1⟩, _, hlits⟩ := hci i hin
                  have hpi := hpl i hin
                  rcases hca with h0 | ⟨b, off, rfl, hlt, hc⟩
                  · omega
                  obtain ⟨pa, pc, g1, g2, g3, g4, g5⟩ := hc i hin
                  have hbw := hb3.trans (hLS.1.below.mono hb3.size)
                  have d1 : wr.cell? ⟨b, off + i * 3, none⟩ = some (.int .i64 (D.adm i)) := (hbw.cell (by exact hlt)).trans g1
                  have hmr : m (D.rol i).toNat = true := by rw [hirol]; exact hLS.2.2.2.1
                  have HMR := (show Hid _ from hmr)
                  have HLS := (show Hid _ from hLS)
                  have HEL := (show Hid (∀ k, k < (asg D.rol D.n z.toNat).length → w3.cell? ⟨gb2, k, none⟩ = some (.int .i64 (((asg D.rol D.n z.toNat).getD k 0 : Nat) : Int))) from hel)
                  clear hie hirol hmr hLS g4 hbw hel hc
                  go_wp2_with fail
                  refine (mark_ls (D.adm i) ha0 ha1 hr HLS.out (fun s hs hy => (hs.1 i hin (hy _ HMR.out)).1) _ (.inl rfl)).mono ?_
                  rintro e w6 ⟨rfl, m6, fs6, hLS6, hma6, hmono6⟩
                  have hbw := hb3.trans (hLS6.1.below.mono hb3.size)
                  have d2 : w6.cell? ⟨b, off + i * 3 + 1, none⟩ = some (.slice pa (D.pl i) pc) := (hbw.cell (by exact hlt)).trans g2
                  have HD6 := (show Hid (Done5 D (asg D.rol D.n z.toNat) k i 0 m6) from ⟨HD.out.mono hmono6, hma6, fun j hj => by omega⟩)
                  have HLS6 := (show Hid _ from hLS6)
                  clear hLS6 hma6 hmono6 HLS HMR HD hbw cE d1 g1 g2 g3
                  go_wp2
                  go_loopw [111] (fun t wr => ∃ (j : Nat) (m : Nat → Bool) (fs : List Int), j ≤ D.pl i ∧ t = .int .i64 j ∧ LS w3 w4.heap.size (w4.heap.size + 1) roles goal D l f g z.toNat gk m fs wr ∧ Hid (Done5 D (asg D.rol D.n z.toNat) k i j m)) (fun t _ => D.pl i - (intOf t).toNat)
                  case atStart => exact ⟨0, m6, fs6, Nat.zero_le _, rfl, HLS6.out, HD6⟩
                  case round =>
                    clear HLS6 HD6 d2
                    obtain ⟨j, m, fs, hj, rfl, hLS, HD⟩ := hrel
                    by_cases hjl : j < D.pl i
                    · rcases g5 with g5 | ⟨pb, po, rfl, hpb, hcl⟩
                      · omega
                      obtain ⟨q1, q2⟩ := hcl j hjl
                      have hbw := hb3.trans (hLS.1.below.mono hb3.size)
                      have d1 : wr.cell? ⟨pb, po + j * 2, none⟩ = some (.int .i64 (D.lit i j)) := (hbw.cell (by exact hpb)).trans q1
                      have d2 : wr.cell? ⟨pb, po + j * 2 + 1, none⟩ = some (.bool (D.neg i j)) := (hbw.cell (by exact hpb)).trans q2
                      have hmr : m (D.rol i).toNat = true := by rw [HIR.out]; exact hLS.2.2.2.1
                      have HMR := (show Hid _ from hmr)
                      have HLS := (show Hid _ from hLS)
                      obtain ⟨hj0, hj1⟩ := hlits j hjl
                      clear hmr hLS hbw hcl q1 q2
                      go_wp2_with fail
                      refine (mark_ls (D.lit i j) hj0 hj1 hr HLS.out (fun s hs hy => (hs.1 i hin (hy _ HMR.out)).2 j hjl) _ (.inr ⟨_, rfl⟩)).mono ?_
                      rintro e w7 ⟨rfl, m7, fs7, hLS7, hma7, hmono7⟩
                      have HD7 := (show Hid _ from HD.out.step hmono7 hma7)
                      have HLS7 := (show Hid _ from hLS7)
                      clear hLS7 hma7 hmono7 HLS HMR HD d1 d2
                      go_wp2
                      go_roundw
                      case rel => exact ⟨j + 1, m7, fs7, by omega, by go_num, HLS7.out, HD7⟩
                      case measure => simp [intOf]; omega
                    · have e : j = D.pl i := by omega
                      have HD' : Hid (Done4 D (asg D.rol D.n z.toNat) (k + 1) m) := Done5.fin (e ▸ HD.out) HI.out
                      have HLS := (show Hid _ from hLS)
                      have HE := (show Hid _ from e)
                      clear e hLS HD g5 hlits
                      go_wp2
                      go_roundw
                      case rel => exact ⟨k + 1, m, fs, by omega, by go_num, HLS.out, HD'⟩
                      case measure => simp [intOf]; omega
                · have e : k = (asg D.rol D.n z.toNat).length := by omega
                  have HD' : Hid (Done6 D (asg g l z.toNat) f 0 (asg D.rol D.n z.toNat) m) := ⟨e ▸ HD.out, fun k hk => by omega⟩
                  have dR : wr.cell? ⟨w2.heap.size, z.toNat, none⟩ = some (.slice rd (asg g l z.toNat).length rp) := (hLS.1.below.cell (by exact hA3)).trans cR
                  have HLS := (show Hid _ from hLS)
                  have HE := (show Hid _ from e)
                  clear e hLS HD eA hlen
                  go_wp2
                  go_loopw [126] (fun t wr => ∃ (k : Nat) (m : Nat → Bool) (fs : List Int), k ≤ (asg g l z.toNat).length ∧ t = .int .i64 k ∧ LS w3 w4.heap.size (w4.heap.size + 1) roles goal D l f g z.toNat gk m fs wr ∧ Hid (Done6 D (asg g l z.toNat) f k (asg D.rol D.n z.toNat) m)) (fun t _ => (asg g l z.toNat).length - (intOf t).toNat)
                  case atStart => exact ⟨0, m, fs, Nat.zero_le _, rfl, HLS.out, HD'⟩
                  case round =>
                    clear HLS HD' dR HE hk hkl
                    obtain ⟨k, m, fs, hk, rfl, hLS, HD⟩ := hrel
                    have hlen := asg_len g l z.toNat
                    by_cases hkl : k < (asg g l z.toNat).length
                    · rcases eR with e | ⟨gb2, rfl, hgb2, hel⟩
                      · omega
                      obtain ⟨hin, hirol⟩ := mem_asg.1 (getD_mem hkl)
                      have cE : wr.cell? ⟨gb2, k, none⟩ = some (.int .i64 (((asg g l z.toNat).getD k 0 : Nat) : Int)) := (hLS.1.below.cell (by exact hgb2)).trans (hel k hkl)
                      obtain ⟨i, hie⟩ : ∃ i, i = (asg g l z.toNat).getD k 0 := ⟨_, rfl⟩
                      rw [← hie] at cE hin hirol
                      have HI := (show Hid _ from hie)
                      obtain ⟨⟨ha0, ha1⟩, _⟩ := hri i hin
                      rcases hcr with h0 | ⟨b, off, rfl, hlt, hc⟩
                      · omega
                      obtain ⟨g1, g2⟩ := hc i hin
                      have hbw := hb3.trans (hLS.1.below.mono hb3.size)
                      have d1 : wr.cell? ⟨b, off + i * 2, none⟩ = some (.int .i64 (f i)) := (hbw.cell (by exact hlt)).trans g1
                      have hmr : m (g i).toNat = true := by rw [hirol]; exact hLS.2.2.2.1
                      have HMR := (show Hid _ from hmr)
                      have HLS := (show Hid _ from hLS)
                      clear hie hirol hmr hLS hbw hel hc g1 g2
                      go_wp2_with fail
                      refine (mark_ls (f i) ha0 ha1 hr HLS.out (fun s hs hy => hs.2 i hin (hy _ HMR.out)) _ (.inl rfl)).mono ?_
                      rintro e w6 ⟨rfl, m6, fs6, hLS6, hma6, hmono6⟩
                      have HD6 := (show Hid (Done6 D (asg g l z.toNat) f (k + 1) (asg D.rol D.n z.toNat) m6) from HD.out.step hmono6 (HI.out ▸ hma6))
                      have HLS6 := (show Hid _ from hLS6)
                      clear hLS6 hma6 hmono6 HLS HMR HD cE d1
                      go_wp2
                      go_roundw
                      case rel => exact ⟨k + 1, m6, fs6, by omega, by go_num, HLS6.out, HD6⟩
                      case measure => simp [intOf]; omega
                    · have e : k = (asg g l z.toNat).length := by omega
                      have HW := (show Hid _ from hLS.done (e ▸ HD.out))
                      have HLS := (show Hid _ from hLS)
                      have HE := (show Hid _ from e)
                      clear e hLS HD eR hlen
                      go_wp2
                      go_roundg (mu roles m fs)
                      case rel => exact ⟨m, fs, HLS.out.1, HW.out, HLS.out.2.2.1, rfl⟩
                      case measure => have := HLS.out.2.2.2.2; omega
end Go.Proofs.Qxb6605479a
