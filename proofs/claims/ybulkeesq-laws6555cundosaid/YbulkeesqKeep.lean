/- keep, begin, settle: the Builder's other appends. -/
import Derived.Test.YbulkeesqAppAll
namespace Go.Proofs.Ybulkeesq
open Go.RowKit Go.Joins

/-- Bytes that stand somewhere in memory. -/
def Src (w : World) (e size : Nat) (ax : Option Addr) (m : Nat) : Prop := 0 < m → ∃ ad news, ax = some ad ∧ List.length news = m * size ∧ (∀ j u, news[j]? = some u → w.cell? (ad.add j) = some u) ∧ (∀ u ∈ news, u.oneCell' = true) ∧ e = e

theorem Src.get {w : World} {e size : Nat} {ax : Option Addr} {m : Nat} (h : Src w e size ax m) : 0 < m → ∃ ad news, ax = some ad ∧ List.length news = m * size ∧ (∀ j u, news[j]? = some u → w.cell? (ad.add j) = some u) ∧ (∀ u ∈ news, u.oneCell' = true) :=
  fun hm => by obtain ⟨ad, news, h1, h2, h3, h4, _⟩ := h hm; exact ⟨ad, news, h1, h2, h3, h4⟩

/-- All that 'keep' leaves. -/
theorem keepX {bb : Nat} {w w1 : World} {s : St} {a' : Option Addr} {n c : Nat} (h : Inv bb w s) (hg : w.grownBy w1 (Value.slice s.ax s.nx s.cx).ownBlock) (hown : Row w1 (bb + 1) 5 1 a' n c) :
    Inv bb (w1.setCell ⟨bb, 7, none⟩ (.slice a' n c)) { s with ax := a', nx := n, cx := c } ∧ Below bb w (w1.setCell ⟨bb, 7, none⟩ (.slice a' n c)) := by
  have hb := Inv.later2 h hg h.rows.ne.2.2.2.2
  have hr := h.rows.appX hg hown
  refine ⟨⟨by rw [block_setCell hb]; rfl, hr.own 7 _⟩, ?_⟩
  exact ((Below.refl bb w).grown hg (Nat.le_of_lt h.lt) (fun k e => by obtain ⟨x, hx, e2⟩ := own_block.1 e; have := (h.rows.x.lt hx).1; omega)).setCell (p := ⟨bb, 7, none⟩) (Nat.le_refl _) _

/-- What 'keep' answers and leaves. -/
def KeepPost (bb : Nat) (s : St) (w : World) (m : Nat) (e : Ending) (w' : World) : Prop := ∃ r n1 c1 a' cap', e = .returned (.slice r n1 c1) ∧ Inv bb w' { s with ax := a', nx := s.nx + m, cx := cap' } ∧ s.cx ≤ cap' ∧ Below bb w w'

set_option maxHeartbeats 1000000 in
theorem keep_any (bb : Nat) (s : St) (w : World) (h : Inv bb w s) (sa : Option Addr) (m c : Nat) (hs : Src w 5 1 sa m) (hn : s.nx + m ≤ 100000000) :
    Calls Yba.prog 22 #[.pointer (some ⟨bb, 0, none⟩), .slice sa m c] w (KeepPost bb s w m) := by
  have c7 : w.cell? ⟨bb, 7, none⟩ = some (.slice s.ax s.nx s.cx) := h.cell 7
  have HI := hid h
  have HS := hid hs
  clear h hs
  go_enter Yba.func22, Yba.ntmps22
  go_wp2_with (at_builtin; refine wpList_append_all rfl (.tmp 15) (.tmp 16) 30 rfl (bb + 1) 5 1 1 Yba.underlying30 Yba.info5 (by decide) s.ax s.nx s.cx rfl (by exact HI.out.rows.x) sa m c rfl HS.out.get (by unfold maxLen; omega) (by omega) (by have := HI.out.lt; omega) ?_; intro a' cap' w1 hown1 hg1 hat1 hcap1; have hbk := Inv.later2 HI.out hg1 HI.out.rows.ne.2.2.2.2; have b1 : w1.cell? ⟨bb, 7, none⟩ = some (.slice s.ax s.nx s.cx) := cell_of_block hbk 7; have b2 := unfrozen_of_block hbk 7; have D := hid (keepX HI.out hg1 hown1); have hle := hown1.cap; have H1 := hid hg1; have H2 := hid hown1; clear hbk hown1 hg1 hat1)
  have hI1 : (0 : Int) ≤ (s.nx : Int) := by omega
  have hI2 : (s.nx : Int) ≤ (s.nx : Int) + (m : Int) := by omega
  have hI3 : (s.nx : Int) + (m : Int) ≤ (cap' : Int) := by omega
  clear H1 H2 c7 HI HS
  go_wp2
  go_quiet (fail)
  go_wp2
  all_goals
    go_ret
    first
      | exact ⟨_, _, _, a', cap', rfl, D.out.1.drewN _, hcap1, below_drewN D.out.2 _⟩
      | (obtain rfl : m = 0 := by omega
         exact ⟨_, _, _, a', cap', rfl, D.out.1.drewN _, hcap1, below_drewN D.out.2 _⟩)
end Go.Proofs.Ybulkeesq
