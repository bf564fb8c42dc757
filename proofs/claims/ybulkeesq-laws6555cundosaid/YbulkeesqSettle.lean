/- settle: the contents of a container that has ended. -/
import Derived.Test.YbulkeesqBegin
namespace Go.Proofs.Ybulkeesq
open Go.RowKit Go.Joins

theorem Row.form {w : World} {base size n c : Nat} {e : TypeId} {a : Option Addr} (h : Row w base e size a n c) : (a = none ∧ n = 0 ∧ c = 0) ∨ ∃ g, a = some ⟨g, 0, none⟩ := by
  obtain ⟨xs, h1, _⟩ := h
  rcases h1.2 with ⟨h0, h2⟩ | ⟨g, cap, cur, hv, _⟩
  · cases h0; exact .inl ⟨rfl, h2, rfl⟩
  · cases hv; exact .inr ⟨g, rfl⟩
/-- The elements of a row from one of them on. -/
theorem Row.src {w : World} {base size st m c g : Nat} {e : TypeId} (h : Row w base e size (some ⟨g, 0, none⟩) (st + m) c) : Src w e size (some ⟨g, st * size, none⟩) m := by
  intro _
  obtain ⟨xs, h1, h2⟩ := h
  have hl := h1.1
  rw [Nat.add_mul] at hl
  refine ⟨⟨g, st * size, none⟩, xs.drop (st * size), rfl, by rw [List.length_drop]; omega, fun j u hj => ?_, fun u hu => h2 u (List.mem_of_mem_drop hu), rfl⟩
  rw [List.getElem?_drop] at hj
  have hlt := (List.getElem?_eq_some_iff.1 hj).1
  rw [Go.WideShapes.add_plain, h1.cellAt _ (by rw [Nat.add_mul]; omega)]
  exact hj
theorem add_block' (a : Addr) (n : Nat) : (a.add n).block = a.block := by unfold Addr.add; split <;> rfl
theorem Src.other {w : World} {e size m : Nat} {ax : Option Addr} (h : Src w e size ax m) {p : Addr} (hp : ∀ x, ax = some x → x.block ≠ p.block) (v : Value) : Src (w.setCell p v) e size ax m := by
  intro hm
  obtain ⟨ad, news, rfl, h2, h3, h4, h5⟩ := h hm
  refine ⟨ad, news, rfl, h2, fun j u hj => ?_, h4, h5⟩
  rw [← h3 j u hj]
  have hne : (ad.add j).block ≠ p.block := by rw [add_block']; exact hp ad rfl
  unfold World.cell?
  rw [Below.heap_setCell _ _ _ _ hne]
theorem Src.zero (w : World) (e size : Nat) (ax : Option Addr) : Src w e size ax 0 := fun h => absurd h (Nat.lt_irrefl 0)

theorem Rows5.cutI {bb : Nat} {w : World} {s : St} (h : Rows5 bb w s) (st : Nat) (hst : st ≤ s.ni) (hle : ∀ y ∈ s.sts, y ≤ st) : Rows5 bb w { s with ni := st } :=
  ⟨h.v, h.o, h.i.cut hst, h.d, h.x, h.vi, h.vd, h.id, hle, h.up⟩

/-- All that the move to 'deepItems' leaves. -/
theorem settleD {bb : Nat} {w w1 : World} {s : St} {a' : Option Addr} {n c : Nat} (h : Inv bb w s) (hg : w.grownBy w1 (Value.slice s.ad s.nd s.cd).ownBlock) (hown : Row w1 (bb + 1) 46 12 a' n c) (hat : a' = s.ad ∨ ∃ g, a' = some ⟨g, 0, none⟩ ∧ w.heap.size ≤ g) :
    Inv bb (w1.setCell ⟨bb, 6, none⟩ (.slice a' n c)) { s with ad := a', nd := n, cd := c } ∧ Below bb w (w1.setCell ⟨bb, 6, none⟩ (.slice a' n c)) := by
  have hb := Inv.later2 h hg h.rows.ne.2.2.2.1
  have hr := h.rows.appD hg hown hat
  refine ⟨⟨by rw [block_setCell hb]; rfl, hr.own 6 _⟩, ?_⟩
  exact ((Below.refl bb w).grown hg (Nat.le_of_lt h.lt) (fun k e => by obtain ⟨x, hx, e2⟩ := own_block.1 e; have := (h.rows.d.lt hx).1; omega)).setCell (p := ⟨bb, 6, none⟩) (Nat.le_refl _) _

/-- What 'settle' does to the Builder. -/
def SettleTo (s s' : St) (st m : Nat) (nested : Bool) : Prop := (nested = false ∧ s' = s) ∨ (nested = true ∧ ∃ a' c', s.cd ≤ c' ∧ s' = { s with ni := st, ad := a', nd := s.nd + m, cd := c' })
def SettlePost (bb : Nat) (s : St) (w : World) (st m : Nat) (nested : Bool) (e : Ending) (w' : World) : Prop := ∃ r n1 c1 s', e = .returned (.slice r n1 c1) ∧ Inv bb w' s' ∧ Below bb w w' ∧ SettleTo s s' st m nested

set_option maxHeartbeats 4000000 in
theorem settle_any (bb : Nat) (s : St) (w0 : World) (h : Inv bb w0 s) (st m : Nat) (hm : s.ni = st + m) (hle : ∀ y ∈ s.sts, y ≤ st) (nested : Bool) (hn : s.ni ≤ 100000) (hd : s.nd ≤ 100000) :
    Calls Yba.prog 24 #[.pointer (some ⟨bb, 5, none⟩), .pointer (some ⟨bb, 6, none⟩), .int .i64 st, .bool nested] w0 (SettlePost bb s w0 st m nested) := by
  have c5 : w0.cell? ⟨bb, 5, none⟩ = some (.slice s.ai (st + m) s.ci) := by have : w0.cell? ⟨bb, 5, none⟩ = some (.slice s.ai s.ni s.ci) := h.cell 5; rw [hm] at this; exact this
  have hi1 : (0 : Int) ≤ (st : Int) := by omega
  have hi2 : (st : Int) ≤ (st : Int) + (m : Int) := by omega
  have hcap := h.rows.i.cap
  have hi3 : (st : Int) + (m : Int) ≤ (s.ci : Int) := by omega
  have hi4 : (st : Int) ≤ (s.ci : Int) := by omega
  have hform := hid h.rows.i.form
  have hsrc : Hid (∀ g, s.ai = some ⟨g, 0, none⟩ → Src w0 46 12 (some ⟨g, st * 12, none⟩) m) := fun g hg => by have := h.rows.i; rw [hm, hg] at this; exact this.src
  have HI := hid h
  clear h
  go_enter Yba.func24, Yba.ntmps24
  go_wp2
  go_cut [9] from 11 to 23 (fun v w2 => ∃ ax, v = .slice ax m m ∧ Hid (Inv bb w2 s ∧ Below bb w0 w2 ∧ Src w2 46 12 ax m ∧ ∀ x, ax = some x → x.block ≠ bb))
  case first =>
    rcases hform.out with ⟨ha, hz1, hz2⟩ | ⟨g, ha⟩
    · obtain ⟨rfl, rfl⟩ : st = 0 ∧ m = 0 := by omega
      rw [ha, hz2] at c5
      go_quiet (fail)
      go_wp2
      go_meet
      exact ⟨none, rfl, HI.out.drewN _, below_drewN (Below.refl _ _) _, Src.zero _ _ _ _, fun x hx => by cases hx⟩
    · have hs := hid (hsrc.out g ha)
      have hgne : Hid (g ≠ bb) := HI.out.rows.ne.2.2.1 _ ha
      rw [ha] at c5
      by_cases hm0 : m = 0
      · subst hm0
        go_quiet (fail)
        go_wp2
        go_meet
        exact ⟨some ⟨g, 0, none⟩, rfl, HI.out.drewN _, below_drewN (Below.refl _ _) _, Src.zero _ _ _ _, fun x hx => by cases hx; exact hgne.out⟩
      · go_quiet (fail)
        go_wp2
        go_meet
        exact ⟨some ⟨g, st * 12, none⟩, by rw [Nat.add_sub_cancel_left], HI.out.drewN _, below_drewN (Below.refl _ _) _, hs.out, fun x hx => by cases hx; exact hgne.out⟩
  case rest =>
    obtain ⟨ax, hv, hcut⟩ := hcut
    subst hv
    obtain ⟨hI2, hB2, hS2, hax⟩ := hcut.out
    clear hcut hsrc
    cases nested
    · go_wp2
      go_ret
      exact ⟨_, _, _, s, rfl, hI2, hB2, .inl ⟨rfl, rfl⟩⟩
    · have e5 : wc.cell? ⟨bb, 5, none⟩ = some (.slice s.ai (st + m) s.ci) := by have : wc.cell? ⟨bb, 5, none⟩ = some (.slice s.ai s.ni s.ci) := hI2.cell 5; rw [hm] at this; exact this
      have e6 : wc.cell? ⟨bb, 6, none⟩ = some (.slice s.ad s.nd s.cd) := hI2.cell 6
      have f5 := hI2.fr 5
      have f6 := hI2.fr 6
      have HC0 : Hid (∀ aa, s.ai = aa → Inv bb (wc.setCell ⟨bb, 5, none⟩ (.slice aa st s.ci)) { s with ni := st }) := fun aa ha => by rw [← ha]; exact hI2.set 5 _ rfl (hI2.rows.cutI st (by omega) hle)
      have HBc0 : Hid (∀ aa, Below bb w0 (wc.setCell ⟨bb, 5, none⟩ (.slice aa st s.ci))) := fun aa => hB2.setCell (p := ⟨bb, 5, none⟩) (Nat.le_refl _) _
      have HS0 : Hid (∀ aa, Src (wc.setCell ⟨bb, 5, none⟩ (.slice aa st s.ci)) 46 12 ax m) := fun aa => hS2.other (p := ⟨bb, 5, none⟩) hax (.slice aa st s.ci)
      clear hI2 hB2 hS2 hax hle HI
      have hj1 : (0 : Int) ≤ (s.nd : Int) := by omega
      have hj2 : (s.nd : Int) ≤ (s.nd : Int) + (m : Int) := by omega
      rcases hform.out with ⟨ha, -, -⟩ | ⟨g, ha⟩
      all_goals
        have HC := hid (HC0.out _ ha)
        rw [ha] at e5
        go_wp2_with (at_builtin; refine wpList_append_all rfl (.tmp 41) (.tmp 42) 27 rfl (bb + 1) 46 12 112 Yba.underlying27 Yba.info46 (by decide) s.ad s.nd s.cd rfl (by exact HC.out.rows.d) ax m m rfl (by exact (HS0.out _).get) (by unfold maxLen; omega) (by omega) (by have := HC.out.lt; omega) ?_; intro a' cap' w1 hown1 hg1 hat1 hcap1; have hbk := Inv.later2 HC.out hg1 HC.out.rows.ne.2.2.2.1; have b1 : w1.cell? ⟨bb, 6, none⟩ = some (.slice s.ad s.nd s.cd) := cell_of_block hbk 6; have b2 := unfrozen_of_block hbk 6; have D := hid (settleD HC.out hg1 hown1 hat1); have hle2 := hown1.cap; have hj3 : (s.nd : Int) + (m : Int) ≤ (cap' : Int) := (by omega); clear hbk hown1 hg1 hat1)
        go_quiet (fail)
        go_wp2
        all_goals
          go_ret
          first
            | exact ⟨_, _, _, _, rfl, D.out.1.drewN _, below_drewN ((HBc0.out _).trans D.out.2) _, .inr ⟨rfl, a', cap', hcap1, rfl⟩⟩
            | (obtain rfl : m = 0 := by omega
               exact ⟨_, _, _, _, rfl, D.out.1.drewN _, below_drewN ((HBc0.out _).trans D.out.2) _, .inr ⟨rfl, a', cap', hcap1, rfl⟩⟩)
end Go.Proofs.Ybulkeesq
