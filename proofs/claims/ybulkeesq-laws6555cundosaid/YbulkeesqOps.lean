/- Null, Number, String, BeginArray: the Builder's steps. -/
import Derived.Test.YbulkeesqSettle
namespace Go.Proofs.Ybulkeesq
open Go.RowKit Go.Joins
attribute [local go_sem] run_store_float

/-- A Builder that is small enough, and has no ended container left over. -/
structure Fit (s : St) : Prop where
  tk0 : 0 ≤ s.tk
  tk1 : s.tk ≤ 90000
  sum : s.sum ≤ 90000
  nx : s.nx ≤ 50000000
  old : s.old = []
/-- What a step leaves. -/
def OpPost (bb L : Nat) (s : St) (w : World) (e : Ending) (w' : World) : Prop := e = .returned (.tuple #[]) ∧ ∃ s', Inv bb w' s' ∧ Below bb w w' ∧ Grow L s s' ∧ s'.old = []

theorem Fit.nv {s : St} (h : Fit s) : s.nv ≤ 90000 := by have := h.sum; unfold St.sum at this; omega
theorem Fit.ni {s : St} (h : Fit s) : s.ni ≤ 90000 := by have := h.sum; unfold St.sum at this; omega
theorem Fit.nd {s : St} (h : Fit s) : s.nd ≤ 90000 := by have := h.sum; unfold St.sum at this; omega
theorem Fit.no {s : St} (h : Fit s) : s.sts.length ≤ 90000 := by have := h.sum; unfold St.sum at this; omega

theorem grow_tr (L : Nat) (s : St) : Grow L s { s with tr := true } := ⟨rfl, rfl, rfl, rfl, rfl, rfl, rfl, rfl, rfl, rfl, Nat.le_refl _, Nat.le_refl _, Nat.le_refl _, Nat.le_refl _, Nat.le_refl _, by simp only [St.sum]; omega, by simp only; omega, by simp only; omega, fun h => h⟩
theorem grow_next {s s2 : St} {g k : Nat} (h : NextTo { s with tk := s.tk + 1 } s2 g k) : Grow 0 s s2 ∧ s2.old = s.old := by
  rcases h with ⟨_, c, hc, _, rfl⟩ | ⟨_, c, hc, _, rfl⟩
  · exact ⟨⟨rfl, rfl, rfl, rfl, rfl, rfl, rfl, rfl, rfl, rfl, hc, Nat.le_refl _, Nat.le_refl _, Nat.le_refl _, Nat.le_refl _, by simp only [St.sum]; omega, by simp only; omega, by simp only; omega, fun h => by simp only; omega⟩, rfl⟩
  · exact ⟨⟨rfl, rfl, rfl, rfl, rfl, rfl, rfl, rfl, rfl, rfl, Nat.le_refl _, Nat.le_refl _, hc, Nat.le_refl _, Nat.le_refl _, by simp only [St.sum]; omega, by simp only; omega, by simp only; omega, fun h => by simp only; omega⟩, rfl⟩
theorem Slot.cell0 {bb : Nat} {w : World} {s : St} {g k : Nat} (hs : Slot s g k) (h : Rows5 bb w s) : (∃ v, w.cell? ⟨g, k * 12, none⟩ = some v) ∧ w.frozen? ⟨g, k * 12, none⟩ = false := hs.cell h 0 (by omega)
theorem Slot.below {bb : Nat} {w W0 : World} {s : St} {g k : Nat} (hs : Slot s g k) (h : Inv bb w s) (hB : Below bb W0 w) (j : Nat) (v : Value) : Below bb W0 (w.setCell ⟨g, j, none⟩ v) := hB.setCell (p := ⟨g, j, none⟩) (Nat.le_of_lt (hs.lt h.rows).1) v

set_option maxHeartbeats 1000000 in
theorem null_any (bb : Nat) (s : St) (w : World) (h : Inv bb w s) (hf : Fit s) : Calls Yba.prog 15 #[.pointer (some ⟨bb, 0, none⟩)] w (OpPost bb 0 s w) := by
  have HI := hid h
  have HF := hid hf
  clear h hf
  go_enter Yba.func15, Yba.ntmps15
  go_wp2_with (first
    | (go_at_call 20; refine (take_post bb s w HI.out HF.out.tk0 (by have := HF.out.tk1; omega)).mono ?_; rintro e w1 ⟨b, s1, rfl, hI1, hB1, (⟨rfl, rfl⟩ | ⟨rfl, rfl⟩)⟩ <;> (have HI1 := hid hI1; have HB1 := hid hB1; clear hI1 hB1))
    | (go_at_call 21; refine (next_any bb { s with tk := s.tk + 1 } w1 HI1.out (by have := HF.out.nv; simp only; omega) (by have := HF.out.ni; simp only; omega) (by have := HF.out.no; simp only; omega)).mono ?_; rintro e w2 ⟨g, k, s2, rfl, hI2, hN, hB2⟩; obtain ⟨⟨v0, hv0⟩, f0⟩ := hN.slot.cell0 hI2.rows; have HI2 := hid hI2; have HB2 := hid (HB1.out.trans hB2); have HN := hid hN; clear hI2 hB2 hN))
  · go_end0
    exact ⟨rfl, _, HI1.out, HB1.out, grow_tr _ _, HF.out.old⟩
  · go_end0
    exact ⟨rfl, s2, HN.out.slot.inv HI2.out _ _ rfl, HN.out.slot.below HI2.out HB2.out _ _, (grow_next HN.out).1, (grow_next HN.out).2.trans HF.out.old⟩

set_option maxHeartbeats 1000000 in
theorem number_any (bb : Nat) (s : St) (w : World) (h : Inv bb w s) (hf : Fit s) (x : Nat) : Calls Yba.prog 16 #[.pointer (some ⟨bb, 0, none⟩), .float .f64 x] w (OpPost bb 0 s w) := by
  have HI := hid h
  have HF := hid hf
  clear h hf
  go_enter Yba.func16, Yba.ntmps16
  go_wp2_with (first
    | (go_at_call 20; refine (take_post bb s w HI.out HF.out.tk0 (by have := HF.out.tk1; omega)).mono ?_; rintro e w1 ⟨b, s1, rfl, hI1, hB1, (⟨rfl, rfl⟩ | ⟨rfl, rfl⟩)⟩ <;> (have HI1 := hid hI1; have HB1 := hid hB1; clear hI1 hB1))
    | (go_at_call 21; refine (next_any bb { s with tk := s.tk + 1 } w1 HI1.out (by have := HF.out.nv; simp only; omega) (by have := HF.out.ni; simp only; omega) (by have := HF.out.no; simp only; omega)).mono ?_; rintro e w2 ⟨g, k, s2, rfl, hI2, hN, hB2⟩; obtain ⟨⟨v0, hv0⟩, f0⟩ := hN.slot.cell0 hI2.rows; obtain ⟨⟨v6, hv6⟩, f6⟩ := hN.slot.cell hI2.rows 6 (by omega); have HI2 := hid hI2; have HB2 := hid (HB1.out.trans hB2); have HN := hid hN; clear hI2 hB2 hN))
  · go_end0
    exact ⟨rfl, _, HI1.out, HB1.out, grow_tr _ _, HF.out.old⟩
  · go_end0
    have hI3 := HN.out.slot.inv HI2.out (k * 12) (.int .u8 2) rfl
    exact ⟨rfl, s2, HN.out.slot.inv hI3 _ _ rfl, HN.out.slot.below hI3 (HN.out.slot.below HI2.out HB2.out _ _) _ _, (grow_next HN.out).1, (grow_next HN.out).2.trans HF.out.old⟩

set_option maxHeartbeats 1000000 in
theorem beginArray_any (bb : Nat) (s : St) (w : World) (h : Inv bb w s) (hf : Fit s) : Calls Yba.prog 18 #[.pointer (some ⟨bb, 0, none⟩)] w (OpPost bb 0 s w) := by
  have HI := hid h
  have HF := hid hf
  clear h hf
  go_enter Yba.func18, Yba.ntmps18
  go_wp2_with (go_at_call 23; refine (begin_any bb s w HI.out HF.out.tk0 (by have := HF.out.tk1; omega) (by have := HF.out.no; omega) HF.out.old).mono ?_; rintro e w1 ⟨b, s1, rfl, hI1, hB1, hT⟩; have HI1 := hid hI1; have HB1 := hid hB1; have HT := hid hT; clear hI1 hB1 hT)
  go_end0
  rcases HT.out with rfl | ⟨g, c, hc, rfl⟩
  · exact ⟨rfl, _, HI1.out, HB1.out, grow_tr _ _, HF.out.old⟩
  · exact ⟨rfl, _, HI1.out, HB1.out, ⟨rfl, rfl, rfl, rfl, rfl, rfl, rfl, rfl, rfl, rfl, Nat.le_refl _, hc, Nat.le_refl _, Nat.le_refl _, Nat.le_refl _, by simp only [St.sum, List.length_append, List.length_cons, List.length_nil]; omega, by simp only; omega, by simp only; omega, fun h => by simp only; omega⟩, rfl⟩
def TakePostO (bb : Nat) (s : St) (w : World) (e : Ending) (w' : World) : Prop := ∃ b s1, e = .returned (.bool b) ∧ Inv bb w' s1 ∧ OnlyBB bb w w' ∧ TakeTo s s1 b
theorem take_postO (bb : Nat) (s : St) (w : World) (h : Inv bb w s) (hk0 : 0 ≤ s.tk) (hk1 : s.tk ≤ 100000) : Calls Yba.prog 20 #[.pointer (some ⟨bb, 0, none⟩)] w (TakePostO bb s w) := by
  refine (take_any bb s w h hk0 hk1).mono fun e w' k => ?_
  obtain ⟨hO, ⟨he, hI⟩ | ⟨he, hI⟩⟩ := k
  · exact ⟨false, _, he, hI, hO, .inl ⟨rfl, rfl⟩⟩
  · exact ⟨true, _, he, hI, hO, .inr ⟨rfl, rfl⟩⟩
theorem Src.only {bb : Nat} {w w' : World} {e size m : Nat} {ax : Option Addr} (h : Src w e size ax m) (ho : OnlyBB bb w w') (hp : ∀ x, ax = some x → x.block ≠ bb) : Src w' e size ax m := by
  intro hm
  obtain ⟨ad, news, rfl, h2, h3, h4, h5⟩ := h hm
  refine ⟨ad, news, rfl, h2, fun j u hj => ?_, h4, h5⟩
  rw [← h3 j u hj]
  unfold World.cell?
  rw [ho.block _ (by rw [add_block']; exact hp ad rfl)]
theorem grow_string {s s3 : St} {g k m cap' : Nat} {a' : Option Addr} (hc : s.cx ≤ cap') (h : NextTo { s with tk := s.tk + 1, ax := a', nx := s.nx + m, cx := cap' } s3 g k) : Grow m s s3 ∧ s3.old = s.old := by
  rcases h with ⟨_, c, hc', _, rfl⟩ | ⟨_, c, hc', _, rfl⟩
  · exact ⟨⟨rfl, rfl, rfl, rfl, rfl, rfl, rfl, rfl, rfl, rfl, hc', Nat.le_refl _, Nat.le_refl _, Nat.le_refl _, hc, by simp only [St.sum]; omega, by simp only; omega, by simp only; omega, fun h => by simp only; omega⟩, rfl⟩
  · exact ⟨⟨rfl, rfl, rfl, rfl, rfl, rfl, rfl, rfl, rfl, rfl, Nat.le_refl _, Nat.le_refl _, hc', Nat.le_refl _, hc, by simp only [St.sum]; omega, by simp only; omega, by simp only; omega, fun h => by simp only; omega⟩, rfl⟩

set_option maxHeartbeats 1000000 in
theorem string_any (bb : Nat) (s : St) (w : World) (h : Inv bb w s) (hf : Fit s) (sa : Option Addr) (m c : Nat) (hs : Src w 5 1 sa m) (hne : ∀ x, sa = some x → x.block ≠ bb) (hm : m ≤ 10000000) :
    Calls Yba.prog 17 #[.pointer (some ⟨bb, 0, none⟩), .slice sa m c] w (OpPost bb m s w) := by
  have HI := hid h
  have HF := hid hf
  have HS := hid hs
  have HE := hid hne
  clear h hf hs hne
  go_enter Yba.func17, Yba.ntmps17
  go_wp2_with (first
    | (go_at_call 20; refine (take_postO bb s w HI.out HF.out.tk0 (by have := HF.out.tk1; omega)).mono ?_; rintro e w1 ⟨b, s1, rfl, hI1, hO1, (⟨rfl, rfl⟩ | ⟨rfl, rfl⟩)⟩ <;> (have HI1 := hid hI1; have HB1 := hid hO1.below; have HS1 := hid (HS.out.only hO1 HE.out); clear hI1 hO1))
    | (go_at_call 22; refine (keep_any bb { s with tk := s.tk + 1 } w1 HI1.out sa m c HS1.out (by have := HF.out.nx; simp only; omega)).mono ?_; rintro e w2 ⟨r, n1, c1, a', cap', rfl, hI2, hc2, hB2⟩; have HI2 := hid hI2; have HB2 := hid (HB1.out.trans hB2); have HC2 := hid hc2; clear hI2 hB2 hc2)
    | (go_at_call 21; refine (next_any bb { s with tk := s.tk + 1, ax := a', nx := s.nx + m, cx := cap' } w2 HI2.out (by have := HF.out.nv; simp only; omega) (by have := HF.out.ni; simp only; omega) (by have := HF.out.no; simp only; omega)).mono ?_; rintro e w3 ⟨g, k, s3, rfl, hI3, hN, hB3⟩; obtain ⟨⟨v0, hv0⟩, f0⟩ := hN.slot.cell0 hI3.rows; obtain ⟨⟨v9, hv9⟩, f9⟩ := hN.slot.cell hI3.rows 9 (by omega); have HI3 := hid hI3; have HB3 := hid (HB2.out.trans hB3); have HN := hid hN; clear hI3 hB3 hN))
  · go_end0
    exact ⟨rfl, _, HI1.out, HB1.out, grow_tr _ _, HF.out.old⟩
  · go_end0
    have hI4 := HN.out.slot.inv HI3.out (k * 12) (.int .u8 3) rfl
    exact ⟨rfl, s3, HN.out.slot.inv hI4 _ _ rfl, HN.out.slot.below hI4 (HN.out.slot.below HI3.out HB3.out _ _) _ _, (grow_string HC2.out HN.out).1, (grow_string HC2.out HN.out).2.trans HF.out.old⟩
end Go.Proofs.Ybulkeesq
