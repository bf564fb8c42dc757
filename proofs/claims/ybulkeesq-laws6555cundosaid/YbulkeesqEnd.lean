/- End: a container ends. -/
import Derived.Test.YbulkeesqOps
namespace Go.Proofs.Ybulkeesq
open Go.RowKit Go.Joins

theorem owns_cap {w : World} {base size n c : Nat} {e : TypeId} {a : Option Addr} {xs : List Value} (h : w.ownsRow base e size (.slice a n c) n xs) : n ≤ c := by
  rcases h.2 with ⟨h0, h2⟩ | ⟨g, cap, cur, hv, _, _, hn, _⟩
  · cases h0; omega
  · cases hv; exact hn
/-- The last container is taken off. -/
theorem Inv.pop {bb : Nat} {w : World} {s : St} {ys : List Nat} {st : Nat} (h : Inv bb w s) (h0 : s.sts = ys ++ [st]) (h1 : s.old = []) {aa : Option Addr} (ha : s.ao = aa) : Inv bb (w.setCell ⟨bb, 2, none⟩ (.slice aa ys.length s.co)) { s with sts := ys, old := [st] } := by
  subst ha
  refine h.set 2 _ rfl ⟨h.rows.v, ?_, h.rows.i, h.rows.d, h.rows.x, h.rows.vi, h.rows.vd, h.rows.id, fun y hy => h.rows.le y (by rw [h0]; exact List.mem_append_left _ hy), ?_⟩
  · have := h.rows.o
    rw [h0, h1, List.append_nil] at this
    exact this
  · have := h.rows.up
    rw [h0, List.pairwise_append] at this
    exact this.1
/-- What is left of it is forgotten. -/
theorem Inv.forget {bb : Nat} {w : World} {s : St} (h : Inv bb w s) : Inv bb w { s with old := [] } := by
  refine ⟨h.blk, h.rows.v, ?_, h.rows.i, h.rows.d, h.rows.x, h.rows.vi, h.rows.vd, h.rows.id, h.rows.le, h.rows.up⟩
  have h1 := h.rows.o
  rw [openCells_append] at h1
  have := owns_cut (k := s.sts.length) h1 (openCells_length _) (by simp)
  simpa using this

theorem grow_end {s s2 s3 : St} {ys : List Nat} {st m g k : Nat} {nb : Bool} (h0 : s.sts = ys ++ [st]) (hm : s.ni = st + m) (hT : SettleTo { s with sts := ys, old := [st] } s2 st m nb) (hN : NextTo s2 s3 g k) : Grow 0 s { s3 with old := [] } := by
  have hl : s.sts.length = ys.length + 1 := by rw [h0]; simp
  rcases hT with ⟨_, rfl⟩ | ⟨_, a', c', hc', rfl⟩ <;> rcases hN with ⟨_, c, hc, _, rfl⟩ | ⟨_, c, hc, _, rfl⟩
  · exact ⟨rfl, rfl, rfl, rfl, rfl, rfl, rfl, rfl, rfl, rfl, hc, Nat.le_refl _, Nat.le_refl _, Nat.le_refl _, Nat.le_refl _, by simp only [St.sum]; omega, by simp only; omega, by simp only; omega, fun h => h⟩
  · exact ⟨rfl, rfl, rfl, rfl, rfl, rfl, rfl, rfl, rfl, rfl, Nat.le_refl _, Nat.le_refl _, hc, Nat.le_refl _, Nat.le_refl _, by simp only [St.sum]; omega, by simp only; omega, by simp only; omega, fun h => h⟩
  · exact ⟨rfl, rfl, rfl, rfl, rfl, rfl, rfl, rfl, rfl, rfl, hc, Nat.le_refl _, Nat.le_refl _, hc', Nat.le_refl _, by simp only [St.sum]; omega, by simp only; omega, by simp only; omega, fun h => h⟩
  · exact ⟨rfl, rfl, rfl, rfl, rfl, rfl, rfl, rfl, rfl, rfl, Nat.le_refl _, Nat.le_refl _, hc, hc', Nat.le_refl _, by simp only [St.sum]; omega, by simp only; omega, by simp only; omega, fun h => h⟩
theorem settle_keeps {s s2 : St} {st m : Nat} {nb : Bool} (h : SettleTo s s2 st m nb) : s2.sts = s.sts ∧ s2.old = s.old ∧ s2.ao = s.ao ∧ s2.nv = s.nv ∧ (st ≤ s.ni → s2.ni ≤ s.ni) := by
  rcases h with ⟨_, rfl⟩ | ⟨_, a', c', _, rfl⟩
  · exact ⟨rfl, rfl, rfl, rfl, fun _ => Nat.le_refl _⟩
  · exact ⟨rfl, rfl, rfl, rfl, fun h => h⟩
theorem next_keeps {s s2 : St} {g k : Nat} (h : NextTo s s2 g k) : s2.sts = s.sts ∧ s2.old = s.old ∧ s2.ao = s.ao := by
  rcases h with ⟨_, c, _, _, rfl⟩ | ⟨_, c, _, _, rfl⟩ <;> exact ⟨rfl, rfl, rfl⟩

theorem Slot.ne {bb : Nat} {w : World} {s : St} {g k go : Nat} (hs : Slot s g k) (h : Rows5 bb w s) (ho : s.ao = some ⟨go, 0, none⟩) : go ≠ g := by
  obtain ⟨c1, t1⟩ := owns_type h.o ho
  rcases hs with ⟨hs, _⟩ | ⟨hs, _⟩
  · obtain ⟨c2, t2⟩ := h.v.type hs
    exact types_apart t1 t2 (by decide)
  · obtain ⟨c2, t2⟩ := h.i.type hs
    exact types_apart t1 t2 (by decide)
/-- A Builder whose new value is being filled in. -/
theorem Slot.fill {bb : Nat} {w W0 : World} {s : St} {g k : Nat} (hs : Slot s g k) (h : Inv bb w s ∧ Below bb W0 w) (j : Nat) (v : Value) (hv : v.oneCell' = true) : Inv bb (w.setCell ⟨g, j, none⟩ v) s ∧ Below bb W0 (w.setCell ⟨g, j, none⟩ v) :=
  ⟨hs.inv h.1 j v hv, hs.below h.1 h.2 j v⟩

set_option maxHeartbeats 4000000 in
theorem end_any (bb : Nat) (s : St) (w0 : World) (h : Inv bb w0 s) (hf : Fit s) (ys : List Nat) (st : Nat) (h0 : s.sts = ys ++ [st]) : Calls Yba.prog 19 #[.pointer (some ⟨bb, 0, none⟩)] w0 (OpPost bb 0 s w0) := by
  have c9 : w0.cell? ⟨bb, 9, none⟩ = some (.bool s.tr) := h.cell 9
  have HI := hid h
  have HF := hid hf
  by_cases ht : s.tr = true
  · rw [ht] at c9
    clear h hf
    go_enter Yba.func19, Yba.ntmps19
    go_wp2
    go_end0
    exact ⟨rfl, s, HI.out, Below.refl _ _, Grow.refl _ _, HF.out.old⟩
  have ht2 : s.tr = false := by simpa using ht
  rw [ht2] at c9
  have c2 : w0.cell? ⟨bb, 2, none⟩ = some (.slice s.ao (ys.length + 1) s.co) := by have := h.cell 2; rw [St.cells, h0] at this; simp only [List.length_append, List.length_cons, List.length_nil, Nat.zero_add] at this; exact this
  obtain ⟨go, hgo, hgob, _⟩ := open_last (ys := ys) (st := st) (zs := s.old) h.rows.o (by rw [h0]; simp)
  rw [hgo] at c2
  have hlen : ys.length ≤ 90000 := by have := hf.no; rw [h0] at this; simp at this; omega
  have hwl : IntKind.i64.wrap (ys.length : Int) = (ys.length : Int) := IntWalk.i64_in _ ⟨by omega, by omega⟩
  have hlt : (ys.length : Int) < (ys.length : Int) + 1 := by omega
  clear h hf ht
  go_enter Yba.func19, Yba.ntmps19
  go_wp2
  go_cut [2] from 11 to 21 (fun v w2 => v = .pointer (some ⟨go, ys.length * 5, none⟩) ∧ Hid (Inv bb w2 s ∧ Below bb w0 w2))
  case first =>
    go_quiet (fail)
    go_wp2
    go_meet
    exact ⟨rfl, HI.out.drewN _, below_drewN (Below.refl _ _) _⟩
  case rest =>
  obtain ⟨hv2, hcut⟩ := hcut
  subst hv2
  obtain ⟨hI1, hB1⟩ := hcut.out
  have HI1 := hid hI1
  have HB1 := hid hB1
  clear hcut HI c2 c9 hI1 hB1
  generalize hw : wc = w1 at *
  clear hw wc
  have c2 : w1.cell? ⟨bb, 2, none⟩ = some (.slice (some ⟨go, 0, none⟩) (ys.length + 1) s.co) := by have := HI1.out.cell 2; rw [St.cells, h0, hgo] at this; simp only [List.length_append, List.length_cons, List.length_nil, Nat.zero_add] at this; exact this
  have f2 := HI1.out.fr 2
  have hco : (ys.length : Int) ≤ (s.co : Int) := by
    have := owns_cap HI1.out.rows.o
    rw [h0] at this
    simp at this
    omega
  have hl0 : (0 : Int) ≤ (ys.length : Int) := by omega
  go_wp2
  go_cut [] from 22 to 35 (fun w2 => Hid (Inv bb w2 { s with sts := ys, old := [st] } ∧ Below bb w0 w2))
  case first =>
    go_region
    all_goals
      go_wp2
      go_meet
      exact ⟨(HI1.out.pop h0 HF.out.old hgo).drew, (HB1.out.setCell (p := ⟨bb, 2, none⟩) (Nat.le_refl _) _).drew⟩
  case rest =>
  obtain ⟨hI2, hB2⟩ := hcut.out
  have hst : st ≤ s.ni := HI1.out.rows.le st (by rw [h0]; simp)
  obtain ⟨m, hm⟩ : ∃ m, s.ni = st + m := ⟨s.ni - st, by omega⟩
  have hle : Hid (∀ y ∈ ys, y ≤ st) := by
    have := HI1.out.rows.up
    rw [h0, List.pairwise_append] at this
    exact fun y hy => this.2.2 y hy st (by simp)
  have HI2 := hid hI2
  have HB2 := hid hB2
  clear hcut hI2 hB2 HI1 HB1 c2 f2 hco hl0
  generalize hw : wc = w2 at *
  clear hw wc
  obtain ⟨go', hgo', _, _, o1, _, o3, _⟩ := open_last (ys := ys) (st := st) (zs := []) HI2.out.rows.o rfl
  obtain rfl : go = go' := by have := hgo.symm.trans hgo'; cases this; rfl
  have c2 : w2.cell? ⟨bb, 2, none⟩ = some (.slice s.ao ys.length s.co) := HI2.out.cell 2
  obtain ⟨nb, hnb⟩ : ∃ nb, decide ((0 : Int) < (ys.length : Int)) = nb := ⟨_, rfl⟩
  have hnb2 : decide (0 < ys.length) = nb := by rw [← hnb]; simp
  go_wp2
  go_cut [5] from 46 to 57 (fun v w2 => ∃ r n1 c1 s2, v = .slice r n1 c1 ∧ Hid (Inv bb w2 s2 ∧ Below bb w0 w2 ∧ SettleTo { s with sts := ys, old := [st] } s2 st m nb))
  case first =>
    go_region_with (go_at_call 24; refine (settle_any bb { s with sts := ys, old := [st] } _ (by exact HI2.out.drew) st m hm hle.out nb (by have := HF.out.ni; simp only; omega) (by have := HF.out.nd; simp only; omega)).mono ?_; rintro e w3 ⟨r, n1, c1, s2, rfl, hI3, hB3, hT⟩; have H3 := hid hI3; have HB3 := hid (HB2.out.drew.trans hB3); have HT := hid hT; clear hI3 hB3 hT)
    all_goals
      go_wp2
      go_meet
      exact ⟨r, n1, c1, s2, rfl, H3.out, HB3.out, HT.out⟩
  case rest =>
  obtain ⟨r, n1, c1, s2, hv5, hcut⟩ := hcut
  subst hv5
  obtain ⟨hI3, hB3, hT⟩ := hcut.out
  obtain ⟨k1, k2, k3, k4, k5⟩ := settle_keeps hT
  have HI3 := hid hI3
  have HB3 := hid hB3
  have HT := hid hT
  have HK := hid (And.intro k1 (And.intro k2 k3))
  have q1 : s2.nv ≤ 100000 := by have := HF.out.nv; simp only at k4; omega
  have q2 : s2.ni ≤ 100000 := by have := HF.out.ni; have := k5 hst; simp only at this; omega
  have q3 : s2.sts.length ≤ 100000 := by rw [k1]; simp only; omega
  clear hcut hI3 hB3 hT k1 k2 k3 k4 k5 o1 o3 c2 HI2 HB2
  generalize hw : wc = w3 at *
  clear hw wc
  go_wp2_with (go_at_call 21; refine (next_any bb s2 w3 HI3.out q1 q2 q3).mono ?_; rintro e w4 ⟨g, k, s3, rfl, hI4, hN, hB4⟩; have HI4 := hid hI4; have HB4 := hid (HB3.out.trans hB4); have HN := hid hN; clear hI4 hB4 hN)
  obtain ⟨k1, k2, k3⟩ := HK.out
  obtain ⟨k4, k5, k6⟩ := next_keeps HN.out
  have hl3 : s3.sts ++ s3.old = ys ++ st :: [] := by rw [k4, k5, k1, k2]
  obtain ⟨go', hgo', hgb, o0, o1, o2, o3, o4⟩ := open_last (ys := ys) (st := st) (zs := []) HI4.out.rows.o hl3
  obtain rfl : go = go' := by have := hgo.symm.trans ((k3.symm.trans k6.symm).trans hgo'); cases this; rfl
  obtain ⟨⟨v0, hv0⟩, f0⟩ := HN.out.slot.cell0 HI4.out.rows
  obtain ⟨⟨v3, hv3⟩, f3⟩ := HN.out.slot.cell HI4.out.rows 3 (by omega)
  obtain ⟨⟨v10, hv10⟩, f10⟩ := HN.out.slot.cell HI4.out.rows 10 (by omega)
  obtain ⟨⟨v11, hv11⟩, f11⟩ := HN.out.slot.cell HI4.out.rows 11 (by omega)
  have hgg : go ≠ g := HN.out.slot.ne HI4.out.rows hgo'
  have hgg' : g ≠ go := hgg.symm
  have HS := hid HN.out.slot
  have H4 := hid (And.intro HI4.out HB4.out)
  clear k1 k2 k3 k4 k5 k6
  go_cut [] from 72 to 93 (fun w2 => Hid (Inv bb w2 s3 ∧ Below bb w0 w2))
  case first =>
    go_region
    all_goals
      go_wp2
      go_meet
      have q := HS.out.fill (HS.out.fill (HS.out.fill (HS.out.fill H4.out (k * 12) (.int .u8 6) rfl) (k * 12 + 3) (.int .u32 0) rfl) (k * 12 + 10) (.slice none 0 0) rfl) (k * 12 + 11) (.slice r n1 c1) rfl
      exact ⟨q.1.drew, q.2.drew⟩
  case rest =>
  obtain ⟨hI5, hB5⟩ := hcut.out
  have HI5 := hid hI5
  have HB5 := hid hB5
  clear o0 o1 o2 o3 o4 hcut
  obtain ⟨go', hgo2, _, o0, _⟩ := open_last (ys := ys) (st := st) (zs := []) hI5.rows.o hl3
  obtain rfl : go = go' := by have := hgo'.symm.trans hgo2; cases this; rfl
  clear hI5 hB5
  go_wp2
  go_end0
  exact ⟨rfl, _, HI5.out.forget, HB5.out, grow_end h0 hm HT.out HN.out, rfl⟩
end Go.Proofs.Ybulkeesq
