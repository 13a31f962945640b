/-
  The closure 'mark' of mattering: contract. And the plain state of the work list.
-/
import Derived.Test.Qxb6605479aPlain
import Derived.Deep.AppendLies
namespace Go.Proofs.Qxb6605479a
open Go.RowKit

theorem Try.info3 : (Try.prog.info? 3).map (fun i => (i.zero, i.size, i.bytes)) = some (some (.int .i64 0), 1, 8) := by kernel_rfl

def ints (fs : List Int) : List Value := fs.map (.int .i64)

/-- The memory of the work list: the marks lie in block M = w3.heap.size; Bm holds their slice, Bf the slice of what was found. -/
def St (w3 : World) (Bm Bf roles : Nat) (m : Nat → Bool) (fs : List Int) (wr : World) : Prop :=
  (w3.heap.size < Bm ∧ Bm < Bf) ∧ MRow w3 roles m wr ∧ wr.cell? ⟨Bm, 0, none⟩ = some (.slice (some ⟨w3.heap.size, 0, none⟩) roles roles) ∧ Bf + 1 ≤ wr.heap.size ∧ wr.frozen? ⟨Bf, 0, none⟩ = false ∧
  ∃ ao cap, wr.cell? ⟨Bf, 0, none⟩ = some (.slice ao fs.length cap) ∧ wr.ownsRow (Bf + 1) 3 1 (.slice ao fs.length cap) fs.length (ints fs)

/-- The plain state: what is marked is sound; what was found is marked; the set is closed but at the roles that wait, and at those of E. -/
def Waits (fs : List Int) (x : Nat) : Prop := ∃ z ∈ fs, z.toNat = x
def WL (roles goal : Nat) (D : Rules) (l : Nat) (f g : Nat → Int) (m : Nat → Bool) (fs : List Int) (E : Nat → Prop) : Prop :=
  Sound D l f g goal m ∧ (∀ z ∈ fs, 0 ≤ z ∧ z < roles ∧ m z.toNat = true) ∧ fs.length ≤ cnt m roles ∧
  (∀ i, i < D.n → ¬ Waits fs (D.rol i).toNat → ¬ E (D.rol i).toNat → RuleCl D (fun x => m x = true) i) ∧ (∀ i, i < l → ¬ Waits fs (g i).toNat → ¬ E (g i).toNat → PairCl f g (fun x => m x = true) i)

def mu (roles : Nat) (m : Nat → Bool) (fs : List Int) : Nat := roles - cnt m roles + fs.length

/-- One step of marking: z is marked, no mark is lost, the measure stands. -/
def Ext (roles : Nat) (m : Nat → Bool) (fs : List Int) (m' : Nat → Bool) (fs' : List Int) (z : Int) : Prop :=
  m' z.toNat = true ∧ (∀ y, m y = true → m' y = true) ∧ mu roles m' fs' = mu roles m fs

theorem Sound.mark' {D : Rules} {l : Nat} {f g : Nat → Int} {goal : Nat} {m : Nat → Bool} (h : Sound D l f g goal m) {x : Nat} (hx : ∀ s : Nat → Prop, s goal → Closed D l f g s → (∀ y, m y = true → s y) → s x) : Sound D l f g goal (upd m x) := by
  intro s hs hc y hy
  rcases upd_true hy with rfl | hy
  · exact hx s hs hc fun z hz => h s hs hc z hz
  · exact h s hs hc y hy

theorem WL.mark {roles goal : Nat} {D : Rules} {l : Nat} {f g : Nat → Int} {m : Nat → Bool} {fs : List Int} {E : Nat → Prop} (h : WL roles goal D l f g m fs E) {z : Int} (h0 : 0 ≤ z) (h1 : z < roles) (hm : m z.toNat = false)
    (hr : ∀ s : Nat → Prop, s goal → Closed D l f g s → (∀ y, m y = true → s y) → s z.toNat) : WL roles goal D l f g (upd m z.toNat) (fs ++ [z]) E := by
  obtain ⟨a2, a3, a4, a5, a6⟩ := h
  have hc := cnt_upd m z.toNat roles (by omega) hm
  refine ⟨a2.mark' hr, fun y hy => ?_, by simp; omega, fun i hi hw he => ?_, fun i hi hw he => ?_⟩
  · rcases List.mem_append.1 hy with hy | hy
    · obtain ⟨b1, b2, b3⟩ := a3 y hy
      exact ⟨b1, b2, upd_mono b3⟩
    · simp at hy
      subst hy
      exact ⟨h0, h1, upd_same _ _⟩
  · intro hm'
    have hn : ¬ Waits fs (D.rol i).toNat := fun ⟨y, hy, e⟩ => hw ⟨y, List.mem_append_left _ hy, e⟩
    have hz : (D.rol i).toNat ≠ z.toNat := fun e => hw ⟨z, by simp, e.symm⟩
    rcases upd_true hm' with e | hm'
    · exact absurd e hz
    · obtain ⟨b1, b2⟩ := a5 i hi hn he hm'
      exact ⟨upd_mono b1, fun j hj => upd_mono (b2 j hj)⟩
  · intro hm'
    have hn : ¬ Waits fs (g i).toNat := fun ⟨y, hy, e⟩ => hw ⟨y, List.mem_append_left _ hy, e⟩
    have hz : (g i).toNat ≠ z.toNat := fun e => hw ⟨z, by simp, e.symm⟩
    rcases upd_true hm' with e | hm'
    · exact absurd e hz
    · exact upd_mono (a6 i hi hn he hm')

theorem ext_mark {roles : Nat} {m : Nat → Bool} {fs : List Int} {z : Int} (h0 : 0 ≤ z) (h1 : z < roles) (hm : m z.toNat = false) : Ext roles m fs (upd m z.toNat) (fs ++ [z]) z := by
  refine ⟨upd_same _ _, fun y hy => upd_mono hy, ?_⟩
  have hc := cnt_upd m z.toNat roles (by omega) hm
  have hl := cnt_le (upd m z.toNat) roles
  simp only [mu, List.length_append, List.length_singleton]
  omega

/-- The memory behind a mark. -/
theorem St.push {w3 wr w2 : World} {Bm Bf roles : Nat} {m : Nat → Bool} {fs : List Int} {z : Int} {ao : Option Addr} {cap cap' gg : Nat} {o : Obj} (h : St w3 Bm Bf roles m fs wr) (h0 : 0 ≤ z) (h1 : z < roles)
    (hown : wr.ownsRow (Bf + 1) 3 1 (.slice ao fs.length cap) fs.length (ints fs))
    (hown2 : w2.ownsRow (Bf + 1) 3 1 (.slice (some ⟨gg, 0, none⟩) (fs.length + 1) cap') (fs.length + 1) (ints fs ++ [.int .i64 z]))
    (hgrow : ((wr.setCell ⟨w3.heap.size, z.toNat, none⟩ (.bool true)).alloc o).grownBy w2 (Value.slice ao fs.length cap).ownBlock) :
    St w3 Bm Bf roles (upd m z.toNat) (fs ++ [z]) (w2.setCell ⟨Bf, 0, none⟩ (.slice (some ⟨gg, 0, none⟩) (fs.length + 1) cap')) := by
  obtain ⟨⟨hBm, hBf⟩, a1, a2, a3, a4, ao', cap0, a5, a6⟩ := h
  have hM := a1.mark (x := z.toNat) (by omega)
  obtain ⟨X, hX⟩ : ∃ X, X = wr.setCell ⟨w3.heap.size, z.toNat, none⟩ (.bool true) := ⟨_, rfl⟩
  rw [← hX] at hM hgrow
  have hsz : X.heap.size = wr.heap.size := by rw [hX]; simp
  have hrow : ∀ k, (Value.slice ao fs.length cap).ownBlock = some k → Bf + 1 ≤ k := fun k hk => (hown.lt k hk).1
  have hB : Below (Bf + 1) X w2 := ((Below.refl _ _).alloc (by omega) o).grown hgrow (by simp; omega) hrow
  have hlt2 : Bf + 1 ≤ w2.heap.size := by have := hB.size; omega
  have hb3 : Below w3.heap.size w3 w2 := hM.1.1.trans (hB.mono (by omega))
  obtain ⟨Y, hY⟩ : ∃ Y, Y = w2.setCell ⟨Bf, 0, none⟩ (.slice (some ⟨gg, 0, none⟩) (fs.length + 1) cap') := ⟨_, rfl⟩
  rw [← hY]
  have hYs : Y.heap.size = w2.heap.size := by rw [hY]; simp
  have hYf : ∀ b o, b ≠ Bf → Y.cell? ⟨b, o, none⟩ = w2.cell? ⟨b, o, none⟩ := fun b o hb => by rw [hY]; exact cell_far _ hb
  have hYz : ∀ p, Y.frozen? p = w2.frozen? p := fun p => by rw [hY]; simp
  have hlen : (fs ++ [z]).length = fs.length + 1 := by simp
  have hints : ints (fs ++ [z]) = ints fs ++ [.int .i64 z] := by simp [ints]
  refine ⟨⟨hBm, hBf⟩, ⟨⟨by rw [hY]; exact hb3.setCell (by show w3.heap.size ≤ Bf; omega) _, by omega, fun x => ?_, fun x hx => ?_⟩, fun x hx => ?_⟩, ?_, by omega, ?_, some ⟨gg, 0, none⟩, cap', ?_, ?_⟩
  · rw [hYz, hB.frozen (by show w3.heap.size < _; omega)]; exact hM.1.2.2.1 x
  · rw [hYf _ _ (by omega), hB.cell (by show w3.heap.size < _; omega)]; exact hM.1.2.2.2 x hx
  · rw [hYf _ _ (by omega), hB.cell (by show w3.heap.size < _; omega)]; exact hM.2 x hx
  · rw [hYf _ _ (by omega), hB.cell (by show Bm < _; omega), hX, cell_far _ (by omega)]; exact a2
  · rw [hYz, hB.frozen (by show Bf < _; omega), hX]; simpa using a4
  · rw [hlen, hY]
    exact World.cell?_setCell_same _ _ _ ((hB.cell (by show Bf < _; omega)).trans (by rw [hX, cell_far _ (by omega)]; exact a5))
  · rw [hlen, hints, hY]
    exact ownsRow_setCell_below hown2 (by show Bf < _; omega) _

/-- The one cell that 'append' is handed. -/
theorem new_one (w : World) (b : Nat) (hb : w.heap.size = b) (v : Value) (t : TypeId) : ∀ j u, [v][j]? = some u → (w.alloc (.cells #[v] t)).cell? ((⟨b, 0, none⟩ : Addr).add j) = some u := by
  subst hb
  exact World.news_of_block (cs := #[v]) (t := t) (fr := (0, 0)) (heap_alloc_new w _)

/-- The box of what was found, behind the append. -/
theorem push_far {w3 wr w2 : World} {Bf : Nat} (hBf : w3.heap.size < Bf) {fs : List Int} {x : Nat} {ao : Option Addr} {cap : Nat} {o : Obj} (a3 : Bf + 1 ≤ wr.heap.size) (a4 : wr.frozen? ⟨Bf, 0, none⟩ = false)
    (a5 : wr.cell? ⟨Bf, 0, none⟩ = some (.slice ao fs.length cap)) (hown : wr.ownsRow (Bf + 1) 3 1 (.slice ao fs.length cap) fs.length (ints fs))
    (hgrow : ((wr.setCell ⟨w3.heap.size, x, none⟩ (.bool true)).alloc o).grownBy w2 (Value.slice ao fs.length cap).ownBlock) :
    w2.cell? ⟨Bf, 0, none⟩ = some (.slice ao fs.length cap) ∧ w2.frozen? ⟨Bf, 0, none⟩ = false := by
  obtain ⟨X, hX⟩ : ∃ X, X = wr.setCell ⟨w3.heap.size, x, none⟩ (.bool true) := ⟨_, rfl⟩
  rw [← hX] at hgrow
  have hsz : X.heap.size = wr.heap.size := by rw [hX]; simp
  have hrow : ∀ k, (Value.slice ao fs.length cap).ownBlock = some k → Bf + 1 ≤ k := fun k hk => (hown.lt k hk).1
  have hB : Below (Bf + 1) X w2 := ((Below.refl _ _).alloc (by omega) o).grown hgrow (by simp; omega) hrow
  exact ⟨(hB.cell (by show Bf < _; omega)).trans (by rw [hX, cell_far _ (by omega)]; exact a5), (hB.frozen (by show Bf < _; omega)).trans (by rw [hX]; simpa using a4)⟩

set_option maxHeartbeats 1000000 in
theorem mark_any {w3 wr : World} {Bm Bf roles goal : Nat} {D : Rules} {l : Nat} {f g : Nat → Int} {m : Nat → Bool} {fs : List Int} {E : Nat → Prop} (z : Int) (h0 : 0 ≤ z) (h1 : z < roles) (hro : roles ≤ 65536)
    (hS : St w3 Bm Bf roles m fs wr) (hW : WL roles goal D l f g m fs E) (hr : ∀ s : Nat → Prop, s goal → Closed D l f g s → (∀ y, m y = true → s y) → s z.toNat) :
    Calls Try.prog 45 #[.int .i64 z, .pointer (some ⟨Bm, 0, none⟩), .pointer (some ⟨Bf, 0, none⟩)] wr fun e w' =>
      e = .returned (.tuple #[]) ∧ ∃ m' fs', St w3 Bm Bf roles m' fs' w' ∧ WL roles goal D l f g m' fs' E ∧ Ext roles m fs m' fs' z := by
  have hS' := hS
  obtain ⟨⟨hBm, hBf⟩, a1, a2, a3, a4, ao, cap, a5, a6⟩ := hS
  have hBmf : w3.heap.size < Bf := by omega
  have hcz := a1.2 z.toNat (by omega)
  have hfz := a1.1.2.2.1 z.toNat
  have hfl : fs.length ≤ 65536 := by have := hW.2.2.1; have := cnt_le m roles; omega
  cases hm : m z.toNat
  · have hW2 := hW.mark h0 h1 hm hr
    have hE := ext_mark (fs := fs) h0 h1 hm
    rw [hm] at hcz
    obtain ⟨i0, hi, hz0, hz1, hz2⟩ := info_parts Try.info3
    have hown1 := ownsRow_setCell_below a6 (a := ⟨w3.heap.size, z.toNat, none⟩) (by show w3.heap.size < _; omega) (.bool true)
    have hnews := new_one (wr.setCell ⟨w3.heap.size, z.toNat, none⟩ (.bool true)) wr.heap.size (by simp) (.int .i64 z) 3
    have H := (show Hid (WL roles goal D l f g (upd m z.toNat) (fs ++ [z]) E ∧ Ext roles m fs (upd m z.toNat) (fs ++ [z]) z) from ⟨hW2, hE⟩)
    clear hW hW2 hE hr hm a1
    go_enter Try.func45, Try.ntmps45
    go_wp2_with (at_builtin; refine wpList_append_lies _ rfl (.tmp 12) (.tmp 14) 64 (by rfl) (Bf + 1) 3 i0 (.int .i64 0) 1 8 Try.underlying64 hi hz0 hz1 hz2 rfl (by omega) (.slice ao fs.length cap) fs.length (ints fs) (by rfl) (hown1.alloc _) ⟨wr.heap.size, 0, none⟩ 1 1 [.int .i64 z] (by rfl) rfl hnews (by simp [Value.oneCell']) (by omega) (by unfold maxLen; omega) (by omega) (by simp; omega) (wr.heap.size + 1) (by simp) ?_; intro gg cap' w2 hown2 hgrow hat hlt; have hfar := push_far hBmf a3 a4 a5 a6 hgrow; have hfc := hfar.1; have hff := hfar.2; clear hfar)
    go_end0
    exact ⟨rfl, _, _, hS'.push h0 h1 a6 hown2 hgrow, H.out.1, H.out.2⟩
  · rw [hm] at hcz
    have hE : Ext roles m fs m fs z := ⟨hm, fun _ h => h, rfl⟩
    have H := (show Hid (WL roles goal D l f g m fs E ∧ Ext roles m fs m fs z) from ⟨hW, hE⟩)
    clear hW hE hr hm a1 a6
    go_enter Try.func45, Try.ntmps45
    go_wp2
    go_end0
    exact ⟨rfl, _, _, hS', H.out.1, H.out.2⟩

/-! ### the start, and the pop -/
theorem wl_start (roles goal : Nat) (D : Rules) (l : Nat) (f g : Nat → Int) (E : Nat → Prop) : WL roles goal D l f g (fun _ => false) [] E :=
  ⟨fun _ _ _ _ h => (by cases h), fun _ h => (by cases h), Nat.zero_le _, fun _ _ _ _ h => (by cases h), fun _ _ _ _ h => (by cases h)⟩

theorem st_start {w3 w4 X : World} {roles : Nat} {t t' : TypeId} (hM : MRow w3 roles (fun _ => false) w4) (hX : X = (w4.alloc (Obj.cells #[Value.slice (some ⟨w3.heap.size, 0, none⟩) roles roles] t)).alloc (Obj.cells #[Value.slice none 0 0] t')) :
    St w3 w4.heap.size (w4.heap.size + 1) roles (fun _ => false) [] X := by
  have hb : Below w4.heap.size w4 X := by rw [hX]; exact ((Below.refl _ _).alloc (Nat.le_refl _) _).alloc (by simp) _
  have hlt := hM.1.2.1
  have hs : (w4.alloc (Obj.cells #[Value.slice (some ⟨w3.heap.size, 0, none⟩) roles roles] t)).heap.size = w4.heap.size + 1 := by simp
  refine ⟨⟨hlt, by omega⟩, ⟨⟨hM.1.1.trans (hb.mono (Nat.le_of_lt hlt)), Nat.lt_of_lt_of_le hlt hb.size, fun o => (hb.frozen (by exact hlt)).trans (hM.1.2.2.1 o), fun o ho => by rw [hb.cell (by exact hlt)]; exact hM.1.2.2.2 o ho⟩, fun x hx => (hb.cell (by exact hlt)).trans (hM.2 x hx)⟩, ?_, by rw [hX]; simp, ?_, none, 0, ?_, ?_⟩
  · rw [hX, World.cell?_alloc_lt _ _ _ (by simp)]; simp
  · rw [hX, ← hs]; exact World.frozen?_alloc_new _ _ _ _
  · rw [hX, ← hs]; exact World.cell?_alloc_new _ _ _ _
  · exact World.ownsRow_nil _ _ _ _

/-- The last of what was found, taken off. -/
theorem St.top {w3 wr : World} {Bm Bf roles : Nat} {m : Nat → Bool} {fs : List Int} {z : Int} (h : St w3 Bm Bf roles m (fs ++ [z]) wr) :
    ∃ gb cap, wr.cell? ⟨Bf, 0, none⟩ = some (.slice (some ⟨gb, 0, none⟩) (fs.length + 1) cap) ∧ wr.cell? ⟨gb, fs.length, none⟩ = some (.int .i64 z) ∧ wr.frozen? ⟨Bf, 0, none⟩ = false ∧ fs.length + 1 ≤ cap ∧
      St w3 Bm Bf roles m fs (wr.setCell ⟨Bf, 0, none⟩ (.slice (some ⟨gb, 0, none⟩) fs.length cap)) := by
  obtain ⟨⟨hBm, hBf⟩, a1, a2, a3, a4, ao, cap, a5, a6⟩ := h
  have hlen : (fs ++ [z]).length = fs.length + 1 := by simp
  have hints : ints (fs ++ [z]) = ints fs ++ [.int .i64 z] := by simp [ints]
  rw [hlen] at a5 a6
  rw [hints] at a6
  obtain ⟨gb, cap', e, hgb, hlt⟩ := a6.form (by omega)
  rw [e] at a5 a6
  have hcap : fs.length + 1 ≤ cap' := by
    rcases a6.2 with ⟨h0, _⟩ | ⟨g', c', cur, hv, _, _, hn, _⟩
    · cases h0
    · cases hv; exact hn
  have hrow := ownsRow_pop (xs := ints fs) (last := [.int .i64 z]) (by simp [ints]) a6
  refine ⟨gb, cap', a5, ?_, a4, hcap, ⟨hBm, hBf⟩, ⟨⟨a1.1.1.setCell (by show w3.heap.size ≤ Bf; omega) _, by simpa using a1.1.2.1, fun o => by simpa using a1.1.2.2.1 o, fun o ho => by rw [cell_far _ (by omega)]; exact a1.1.2.2.2 o ho⟩, fun x hx => by rw [cell_far _ (by omega)]; exact a1.2 x hx⟩, by rw [cell_far _ (by omega)]; exact a2, by simpa using a3, by simpa using a4, some ⟨gb, 0, none⟩, cap', ?_, ?_⟩
  · rw [a6.cellAt fs.length (by omega)]
    simp [ints]
  · exact World.cell?_setCell_same _ _ _ a5
  · exact ownsRow_setCell_below hrow (by show Bf < _; omega) _

theorem WL.top {roles goal : Nat} {D : Rules} {l : Nat} {f g : Nat → Int} {m : Nat → Bool} {fs : List Int} {z : Int} (h : WL roles goal D l f g m (fs ++ [z]) fun _ => False) :
    WL roles goal D l f g m fs (fun x => x = z.toNat) ∧ 0 ≤ z ∧ z < roles ∧ m z.toNat = true ∧ mu roles m fs + 1 = mu roles m (fs ++ [z]) := by
  obtain ⟨a2, a3, a4, a5, a6⟩ := h
  obtain ⟨b1, b2, b3⟩ := a3 z (by simp)
  have hw : ∀ x, ¬ Waits fs x → ¬ x = z.toNat → ¬ Waits (fs ++ [z]) x := by
    rintro x h1 h2 ⟨y, hy, e⟩
    rcases List.mem_append.1 hy with hy | hy
    · exact h1 ⟨y, hy, e⟩
    · simp at hy; subst hy; exact h2 e.symm
  refine ⟨⟨a2, fun y hy => a3 y (List.mem_append_left _ hy), by simp at a4; omega, fun i hi h1 h2 => a5 i hi (hw _ h1 h2) (by simp), fun i hi h1 h2 => a6 i hi (hw _ h1 h2) (by simp)⟩, b1, b2, b3, ?_⟩
  simp only [mu, List.length_append, List.length_singleton]
  omega

/-- The exempt role's rules are closed now: nothing is exempt any more. -/
theorem WL.done {roles goal : Nat} {D : Rules} {l : Nat} {f g : Nat → Int} {m : Nat → Bool} {fs : List Int} {r : Nat} (h : WL roles goal D l f g m fs (fun x => x = r))
    (h1 : ∀ i, i < D.n → (D.rol i).toNat = r → m (D.adm i).toNat = true ∧ ∀ j, j < D.pl i → m (D.lit i j).toNat = true) (h2 : ∀ i, i < l → (g i).toNat = r → m (f i).toNat = true) : WL roles goal D l f g m fs fun _ => False := by
  obtain ⟨a2, a3, a4, a5, a6⟩ := h
  refine ⟨a2, a3, a4, fun i hi hw _ => ?_, fun i hi hw _ => ?_⟩
  · by_cases e : (D.rol i).toNat = r
    · exact fun _ => h1 i hi e
    · exact a5 i hi hw e
  · by_cases e : (g i).toNat = r
    · exact fun _ => h2 i hi e
    · exact a6 i hi hw e

/-- Nothing waits: the least closed set. -/
theorem WL.least {roles goal : Nat} {D : Rules} {l : Nat} {f g : Nat → Int} {m : Nat → Bool} (h : WL roles goal D l f g m [] fun _ => False) (hg : m goal = true) : Least D l f g goal m := by
  obtain ⟨a2, _, _, a5, a6⟩ := h
  have hw : ∀ x, ¬ Waits [] x := fun x ⟨y, hy, _⟩ => by cases hy
  exact ⟨hg, ⟨fun i hi => a5 i hi (hw _) (by simp), fun i hi => a6 i hi (hw _) (by simp)⟩, a2⟩

end Go.Proofs.Qxb6605479a
