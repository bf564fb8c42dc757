/- next: where a complete value goes. -/
import Derived.Test.YbulkeesqNextA
namespace Go.Proofs.Ybulkeesq
open Go.RowKit Go.Joins
attribute [local go_sem] run_store_float

set_option maxHeartbeats 4000000 in
set_option maxRecDepth 100000 in
theorem next_top (bb : Nat) (s : St) (w : World) (h : Inv bb w s) (h0 : s.sts = []) (hn : s.nv ≤ 100000) :
    Calls Yba.prog 21 #[.pointer (some ⟨bb, 0, none⟩)] w fun e w' => ∃ g c, e = .returned (.pointer (some ⟨g, s.nv * 12, none⟩)) ∧ Inv bb w' { s with av := some ⟨g, 0, none⟩, nv := s.nv + 1, cv := c } ∧ s.cv ≤ c ∧ Below bb w w' := by
  have c2 : w.cell? ⟨bb, 2, none⟩ = some (.slice s.ao 0 s.co) := by have := h.cell 2; rw [St.cells, h0] at this; exact this
  have c1 : w.cell? ⟨bb, 1, none⟩ = some (.slice s.av s.nv s.cv) := h.cell 1
  have f1 := h.fr 1
  obtain ⟨xs, hown, hone⟩ := h.rows.v
  have hbl := h.lt
  have hlt : (s.nv : Int) < (s.nv : Int) + 1 := by omega
  have HO := hid hown
  have H1 := hid hone
  have HI := hid h
  clear h hown hone h0
  go_enter Yba.func21, Yba.ntmps21
  go_wp2
  go_cut [] from 3 to 19 (fun w2 => Hid (∃ g c, Inv bb w2 { s with av := some ⟨g, 0, none⟩, nv := s.nv + 1, cv := c } ∧ s.cv ≤ c ∧ Below bb w w2))
  case first =>
    go_region_law (refine step_append_caps rfl (.tmp 12) (.tmp 15) 27 rfl (bb + 1) 46 12 112 Yba.underlying27 Yba.info46 (by decide) s.av s.nv s.cv xs rfl (by exact HO.out.alloc _) ⟨w.heap.size, 0, none⟩ 1 1 zeroV rfl rfl (by exact news_zero w) zeroV_one (by decide) (by unfold maxLen; omega) (by omega) (by have := HI.out.lt; simp; omega) ?_; intro g1 cap1 w1 hown1 hg1 hat1 hcap1; obtain ⟨z0, y0, z1, y1, z2, y2, z3, y3, z4, y4, z5, y5, z6, y6, z7, y7, z8, y8, z9, y9, z10, y10, z11, y11⟩ := new_cells12 hown1; have hgb : bb < g1 := (owns_lt hown1 rfl).1; have hbk := Inv.later HI.out hg1 HI.out.rows.ne.1; have b1 : w1.cell? ⟨bb, 1, none⟩ = some (.slice s.av s.nv s.cv) := cell_of_block hbk 1; have b2 := unfrozen_of_block hbk 1; have D := hid (nextV H1.out (by exact (HI.out.rows.alloc _).drew) hbk (by exact ((Below.refl bb w).alloc (Nat.le_of_lt hbl) _).drew) (by simp; omega) hown1 hg1 hat1); clear hbk hown1 hg1 hat1)
    all_goals
      clear z0 z1 z2 z3 z4 z5 z6 z7 z8 z9 z10 z11 y0 y1 y2 y3 y4 y5 y6 y7 y8 y9 y10 y11
      go_wp2
      go_meet
      case rel =>
        have E := D.out
        unfold put0 at E
        exact ⟨g1, cap1, (by first | with_reducible exact E.1.1 | with_reducible exact E.2.1), hcap1, (by first | with_reducible exact E.1.2 | with_reducible exact E.2.2)⟩
  case rest =>
    obtain ⟨g, c, hI, hc, hB⟩ := hcut.out
    have e1 : wc.cell? ⟨bb, 1, none⟩ = some (.slice (some ⟨g, 0, none⟩) (s.nv + 1) c) := hI.cell 1
    have HI2 := hid hI
    have HB2 := hid hB
    have hwr : IntKind.i64.wrap (s.nv : Int) = (s.nv : Int) := IntWalk.i64_in _ ⟨by omega, by omega⟩
    clear hcut hI hB HI HO H1 c1 c2 f1
    go_wp2
    go_quiet (fail)
    go_wp2
    go_ret
    exact ⟨g, c, rfl, HI2.out.drewN _, hc, below_drewN HB2.out _⟩
set_option maxHeartbeats 4000000 in
set_option maxRecDepth 100000 in
theorem next_in (bb : Nat) (s : St) (w0 : World) (h : Inv bb w0 s) (ys : List Nat) (st : Nat) (h0 : s.sts = ys ++ [st]) (hn : s.ni ≤ 100000) (hl : ys.length ≤ 100000) :
    Calls Yba.prog 21 #[.pointer (some ⟨bb, 0, none⟩)] w0 fun e w' => ∃ g c, e = .returned (.pointer (some ⟨g, s.ni * 12, none⟩)) ∧ Inv bb w' { s with ai := some ⟨g, 0, none⟩, ni := s.ni + 1, ci := c } ∧ s.ci ≤ c ∧ Below bb w0 w' := by
  have c2 : w0.cell? ⟨bb, 2, none⟩ = some (.slice s.ao (ys.length + 1) s.co) := by have := h.cell 2; rw [St.cells, h0] at this; simp only [List.length_append, List.length_cons, List.length_nil, Nat.zero_add] at this; exact this
  obtain ⟨go, hgo, _, _, o1, _, _, _⟩ := open_last (ys := ys) (st := st) (zs := s.old) h.rows.o (by rw [h0]; simp)
  rw [hgo] at c2
  have hwl : IntKind.i64.wrap (ys.length : Int) = (ys.length : Int) := IntWalk.i64_in _ ⟨by omega, by omega⟩
  have HI0 := hid h
  clear h h0
  go_enter Yba.func21, Yba.ntmps21
  go_wp2
  go_cut [43] from 31 to 43 (fun v w2 => v = .bool true ∧ Hid (Inv bb w2 s ∧ Below bb w0 w2))
  case first =>
    go_quiet (fail)
    go_wp2
    go_meet
    exact ⟨rfl, HI0.out.drewN _, below_drewN (Below.refl _ _) _⟩
  case rest =>
  obtain ⟨hv43, hcut⟩ := hcut
  obtain ⟨h, hB0⟩ := hcut.out
  subst hv43
  have HB0 := hid hB0
  clear hcut HI0 hB0 c2 o1
  generalize hw : wc = w at *
  clear hw wc
  have c1 : w.cell? ⟨bb, 5, none⟩ = some (.slice s.ai s.ni s.ci) := h.cell 5
  have f1 := h.fr 5
  obtain ⟨xs, hown, hone⟩ := h.rows.i
  have hbl := h.lt
  have hlt : (s.ni : Int) < (s.ni : Int) + 1 := by omega
  have HO := hid hown
  have H1 := hid hone
  have HI := hid h
  clear h hown hone
  go_wp2
  go_cut [] from 44 to 54 (fun w2 => Hid (∃ g c, Inv bb w2 { s with ai := some ⟨g, 0, none⟩, ni := s.ni + 1, ci := c } ∧ s.ci ≤ c ∧ Below bb w w2))
  case first =>
    go_region_law (refine step_append_caps rfl (.tmp 47) (.tmp 50) 27 rfl (bb + 1) 46 12 112 Yba.underlying27 Yba.info46 (by decide) s.ai s.ni s.ci xs rfl (by exact HO.out.alloc _) ⟨w.heap.size, 0, none⟩ 1 1 zeroV rfl rfl (by exact news_zero w) zeroV_one (by decide) (by unfold maxLen; omega) (by omega) (by have := HI.out.lt; simp; omega) ?_; intro g1 cap1 w1 hown1 hg1 hat1 hcap1; obtain ⟨z0, y0, z1, y1, z2, y2, z3, y3, z4, y4, z5, y5, z6, y6, z7, y7, z8, y8, z9, y9, z10, y10, z11, y11⟩ := new_cells12 hown1; have hgb : bb < g1 := (owns_lt hown1 rfl).1; have hbk := Inv.later HI.out hg1 HI.out.rows.ne.2.2.1; have b1 : w1.cell? ⟨bb, 5, none⟩ = some (.slice s.ai s.ni s.ci) := cell_of_block hbk 5; have b2 := unfrozen_of_block hbk 5; have D := hid (nextI H1.out (by exact (HI.out.rows.alloc _).drew) hbk (by exact ((Below.refl bb w).alloc (Nat.le_of_lt hbl) _).drew) (by simp; omega) hown1 hg1 hat1); clear hbk hown1 hg1 hat1)
    all_goals
      clear z0 z1 z2 z3 z4 z5 z6 z7 z8 z9 z10 z11 y0 y1 y2 y3 y4 y5 y6 y7 y8 y9 y10 y11
      go_wp2
      go_meet
      case rel =>
        have E := D.out
        unfold put0 at E
        exact ⟨g1, cap1, (by first | with_reducible exact E.1.1 | with_reducible exact E.2.1), hcap1, (by first | with_reducible exact E.1.2 | with_reducible exact E.2.2)⟩
  case rest =>
    obtain ⟨g, c, hI, hc, hB⟩ := hcut.out
    have e1 : wc.cell? ⟨bb, 5, none⟩ = some (.slice (some ⟨g, 0, none⟩) (s.ni + 1) c) := hI.cell 5
    have HI2 := hid hI
    have HB2 := hid (HB0.out.trans hB)
    have hwr : IntKind.i64.wrap (s.ni : Int) = (s.ni : Int) := IntWalk.i64_in _ ⟨by omega, by omega⟩
    clear hcut hI hB HI HO H1 c1 f1
    go_wp2
    go_quiet (fail)
    go_wp2
    go_ret
    exact ⟨g, c, rfl, HI2.out.drewN _, hc, below_drewN HB2.out _⟩
/-- What 'next' does to the Builder. -/
def NextTo (s s' : St) (g k : Nat) : Prop :=
  (s.sts = [] ∧ ∃ c, s.cv ≤ c ∧ k = s.nv ∧ s' = { s with av := some ⟨g, 0, none⟩, nv := s.nv + 1, cv := c }) ∨ (s.sts ≠ [] ∧ ∃ c, s.ci ≤ c ∧ k = s.ni ∧ s' = { s with ai := some ⟨g, 0, none⟩, ni := s.ni + 1, ci := c })
theorem NextTo.slot {s s' : St} {g k : Nat} (h : NextTo s s' g k) : Slot s' g k := by
  rcases h with ⟨_, c, _, rfl, rfl⟩ | ⟨_, c, _, rfl, rfl⟩
  · exact .inl ⟨rfl, Nat.lt_succ_self _⟩
  · exact .inr ⟨rfl, Nat.lt_succ_self _⟩

theorem next_any (bb : Nat) (s : St) (w : World) (h : Inv bb w s) (hv : s.nv ≤ 100000) (hi : s.ni ≤ 100000) (hl : s.sts.length ≤ 100000) :
    Calls Yba.prog 21 #[.pointer (some ⟨bb, 0, none⟩)] w fun e w' => ∃ g k s', e = .returned (.pointer (some ⟨g, k * 12, none⟩)) ∧ Inv bb w' s' ∧ NextTo s s' g k ∧ Below bb w w' := by
  rcases List.eq_nil_or_concat s.sts with h0 | ⟨ys, st, h0⟩
  · refine (next_top bb s w h h0 hv).mono fun e w' k => ?_
    obtain ⟨g, c, h1, h2, h3, h4⟩ := k
    exact ⟨g, s.nv, _, h1, h2, .inl ⟨h0, c, h3, rfl, rfl⟩, h4⟩
  · have h0' : s.sts = ys ++ [st] := by rw [h0]; simp
    refine (next_in bb s w h ys st h0' hi (by rw [h0'] at hl; simp at hl; omega)).mono fun e w' k => ?_
    obtain ⟨g, c, h1, h2, h3, h4⟩ := k
    exact ⟨g, s.ni, _, h1, h2, .inr ⟨by rw [h0']; simp, c, h3, rfl, rfl⟩, h4⟩
end Go.Proofs.Ybulkeesq
