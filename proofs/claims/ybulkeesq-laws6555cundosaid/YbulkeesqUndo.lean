/- Undo: the Builder goes back to its mark. -/
import Derived.Test.YbulkeesqMarkAll
namespace Go.Proofs.Ybulkeesq
open Go.RowKit Go.Joins

theorem slice_to {P : Program} (w : World) (t : TypeId) (a : Option Addr) (len cap k sz : Nat) (kh : IntKind) (ht : P.underlying t = some (.slice (P.elem t))) (hs : (sizeOf (P.elem t)).run P w = .ok sz w) (hk : k ≤ cap) :
    (Instr.slice t (.slice a len cap) none (some (.int kh (k : Int))) none).run P w = .ok (.slice a k cap) w := by
  rw [run_slice_h w t a len cap ht kh (k : Int) (by omega) (by omega), hs]
  have e : ∀ x : Addr, x.add 0 = x := fun x => by cases x; simp [Addr.add]
  cases a <;> simp [Result.andThen, sliced, e]
theorem Yba.elem27 : Yba.prog.elem 27 = 46 := by kernel_rfl
theorem Yba.elem28 : Yba.prog.elem 28 = 49 := by kernel_rfl
theorem Yba.elem30 : Yba.prog.elem 30 = 5 := by kernel_rfl
theorem size_of {P : Program} {e size bytes : Nat} (w : World) (hinfo : (P.info? e).map (fun i => (i.zero.map (·.cells.size), i.size, i.bytes)) = some (some size, size, bytes)) : (sizeOf e).run P w = .ok size w := by
  obtain ⟨i, z, hi, hz, hsize, hby, hzs⟩ := info_some hinfo
  simp [sizeOf, typeInfo, hi, hsize]
theorem to27 (w : World) (a : Option Addr) (len cap k : Nat) (hk : k ≤ cap) : (Instr.slice 27 (.slice a len cap) none (some (.int .i64 (k : Int))) none).run Yba.prog w = .ok (.slice a k cap) w :=
  slice_to w 27 a len cap k 12 .i64 (by rw [Yba.elem27]; exact Yba.underlying27) (by rw [Yba.elem27]; exact size_of w Yba.info46) hk
theorem to28 (w : World) (a : Option Addr) (len cap k : Nat) (hk : k ≤ cap) : (Instr.slice 28 (.slice a len cap) none (some (.int .i64 (k : Int))) none).run Yba.prog w = .ok (.slice a k cap) w :=
  slice_to w 28 a len cap k 5 .i64 (by rw [Yba.elem28]; exact Yba.underlying28) (by rw [Yba.elem28]; exact size_of w Yba.info49) hk
theorem to30 (w : World) (a : Option Addr) (len cap k : Nat) (hk : k ≤ cap) : (Instr.slice 30 (.slice a len cap) none (some (.int .i64 (k : Int))) none).run Yba.prog w = .ok (.slice a k cap) w :=
  slice_to w 30 a len cap k 1 .i64 (by rw [Yba.elem30]; exact Yba.underlying30) (by rw [Yba.elem30]; exact size_of w Yba.info5) hk
attribute [local go_sem] to27 to28 to30

theorem Own.alloc {bb : Nat} {W0 w : World} {s : St} {C : Array Value} (h : Own bb W0 w s C) (o : Obj) : Own bb W0 (w.alloc o) s C := by
  have hlt : bb < w.heap.size := (Array.getElem?_eq_some_iff.1 h.blk).1
  exact ⟨by rw [Below.heap_alloc _ _ _ hlt]; exact h.blk, h.rows.alloc o, h.below.alloc (Nat.le_of_lt hlt) o⟩

/-- The Builder's fields behind Undo. -/
def undoneCells (s : St) (lv lo li ld lx : Nat) (tk : Int) (tr : Bool) : Array Value :=
  #[.int .i64 s.mv, .slice s.av lv s.cv, .slice s.ao lo s.co, .slice none 0 0, .slice none 0 0, .slice s.ai li s.ci, .slice s.ad ld s.cd, .slice s.ax lx s.cx, .int .i64 tk, .bool tr,
    s.m0, s.m1, s.m2, s.m3, s.m4, s.m5, s.m6, s.m7, s.m8]
def UndoPost (bb : Nat) (s : St) (w : World) (lv lo li ld lx : Nat) (tk : Int) (tr : Bool) (e : Ending) (w' : World) : Prop := e = .returned (.tuple #[]) ∧ w'.heap[bb]? = some (.cells (undoneCells s lv lo li ld lx tk tr) 35 (0, 0)) ∧ Below bb w w'
theorem undone_cells (s : St) (lv lo li ld lx : Nat) (tk : Int) (tr : Bool) : ((((((((s.cells.setIfInBounds 1 (.slice s.av lv s.cv)).setIfInBounds 2 (.slice s.ao lo s.co)).setIfInBounds 3 (.slice none 0 0)).setIfInBounds 4 (.slice none 0 0)).setIfInBounds 5 (.slice s.ai li s.ci)).setIfInBounds 6 (.slice s.ad ld s.cd)).setIfInBounds 7 (.slice s.ax lx s.cx)).setIfInBounds 8 (.int .i64 tk)).setIfInBounds 9 (.bool tr) = undoneCells s lv lo li ld lx tk tr := by
  simp [St.cells, undoneCells]
theorem undo_done {bb : Nat} {w : World} {s : St} (h : Inv bb w s) (lv lo li ld lx : Nat) (tk : Int) (tr : Bool) (o : Obj) : UndoPost bb s w lv lo li ld lx tk tr (.returned (.tuple #[])) ((((((((((w.setCell ⟨bb, 1, none⟩ (.slice s.av lv s.cv)).setCell ⟨bb, 2, none⟩ (.slice s.ao lo s.co)).setCell ⟨bb, 3, none⟩ (.slice none 0 0)).setCell ⟨bb, 4, none⟩ (.slice none 0 0)).setCell ⟨bb, 5, none⟩ (.slice s.ai li s.ci)).setCell ⟨bb, 6, none⟩ (.slice s.ad ld s.cd)).setCell ⟨bb, 7, none⟩ (.slice s.ax lx s.cx)).setCell ⟨bb, 8, none⟩ (.int .i64 tk)).setCell ⟨bb, 9, none⟩ (.bool tr)).alloc o).drew.drew.drew.drew.drew.drew := by
  have q := (((((((((Own.start h).set 1 (.slice s.av lv s.cv)).set 2 (.slice s.ao lo s.co)).set 3 (.slice none 0 0)).set 4 (.slice none 0 0)).set 5 (.slice s.ai li s.ci)).set 6 (.slice s.ad ld s.cd)).set 7 (.slice s.ax lx s.cx)).set 8 (.int .i64 tk)).set 9 (.bool tr)
  rw [undone_cells] at q
  have q4 := (q.alloc o).drew.drew.drew.drew.drew.drew
  exact ⟨rfl, q4.blk, q4.below⟩

set_option maxHeartbeats 1000000 in
theorem undo_any (bb : Nat) (s : St) (w : World) (h : Inv bb w s) (lv lo li ld lx : Nat) (tk : Int) (tr : Bool) (e0 : s.m0 = .int .i64 lv) (e1 : s.m1 = .int .i64 lo) (e2 : s.m2 = .int .i64 0) (e3 : s.m3 = .int .i64 0) (e4 : s.m4 = .int .i64 li) (e5 : s.m5 = .int .i64 ld) (e6 : s.m6 = .int .i64 lx) (e7 : s.m7 = .int .i64 tk) (e8 : s.m8 = .bool tr)
    (hv : lv ≤ s.cv) (ho : lo ≤ s.co) (hi : li ≤ s.ci) (hd : ld ≤ s.cd) (hx : lx ≤ s.cx) :
    Calls Yba.prog 12 #[.pointer (some ⟨bb, 0, none⟩)] w (UndoPost bb s w lv lo li ld lx tk tr) := by
  have c1 : w.cell? ⟨bb, 1, none⟩ = some (.slice s.av s.nv s.cv) := h.cell 1
  have c2 : w.cell? ⟨bb, 2, none⟩ = some (.slice s.ao s.sts.length s.co) := h.cell 2
  have c3 : w.cell? ⟨bb, 3, none⟩ = some (.slice none 0 0) := h.cell 3
  have c4 : w.cell? ⟨bb, 4, none⟩ = some (.slice none 0 0) := h.cell 4
  have c5 : w.cell? ⟨bb, 5, none⟩ = some (.slice s.ai s.ni s.ci) := h.cell 5
  have c6 : w.cell? ⟨bb, 6, none⟩ = some (.slice s.ad s.nd s.cd) := h.cell 6
  have c7 : w.cell? ⟨bb, 7, none⟩ = some (.slice s.ax s.nx s.cx) := h.cell 7
  have c8 : w.cell? ⟨bb, 8, none⟩ = some (.int .i64 s.tk) := h.cell 8
  have c9 : w.cell? ⟨bb, 9, none⟩ = some (.bool s.tr) := h.cell 9
  have d0 : w.cell? ⟨bb, 10, none⟩ = some (.int .i64 lv) := e0 ▸ h.cell 10
  have d1 : w.cell? ⟨bb, 11, none⟩ = some (.int .i64 lo) := e1 ▸ h.cell 11
  have d2 : w.cell? ⟨bb, 12, none⟩ = some (.int .i64 0) := e2 ▸ h.cell 12
  have d3 : w.cell? ⟨bb, 13, none⟩ = some (.int .i64 0) := e3 ▸ h.cell 13
  have d4 : w.cell? ⟨bb, 14, none⟩ = some (.int .i64 li) := e4 ▸ h.cell 14
  have d5 : w.cell? ⟨bb, 15, none⟩ = some (.int .i64 ld) := e5 ▸ h.cell 15
  have d6 : w.cell? ⟨bb, 16, none⟩ = some (.int .i64 lx) := e6 ▸ h.cell 16
  have d7 : w.cell? ⟨bb, 17, none⟩ = some (.int .i64 tk) := e7 ▸ h.cell 17
  have d8 : w.cell? ⟨bb, 18, none⟩ = some (.bool tr) := e8 ▸ h.cell 18
  have f1 := h.fr 1
  have f2 := h.fr 2
  have f3 := h.fr 3
  have f4 := h.fr 4
  have f5 := h.fr 5
  have f6 := h.fr 6
  have f7 := h.fr 7
  have f8 := h.fr 8
  have f9 := h.fr 9
  have hbl := h.lt
  have HI := hid h
  clear h e0 e1 e2 e3 e4 e5 e6 e7 e8
  go_enter Yba.func12, Yba.ntmps12
  go_wp2
  go_region
  go_wp2
  go_region
  go_wp2
  go_region
  go_wp2
  go_region
  go_wp2
  go_region
  go_wp2
  go_region
  go_wp2
  go_end0
  exact undo_done HI.out lv lo li ld lx tk tr _

theorem values_any (bb : Nat) (w : World) (a : Option Addr) (n c : Nat) (c1 : w.cell? ⟨bb, 1, none⟩ = some (.slice a n c)) : Calls Yba.prog 13 #[.pointer (some ⟨bb, 0, none⟩)] w fun e w' => e = .returned (.slice a n c) ∧ w' = w := by
  go_enter Yba.func13, Yba.ntmps13
  go_wp2
  go_ret
  exact ⟨rfl, rfl⟩
theorem truncated_any (bb : Nat) (w : World) (tr : Bool) (c9 : w.cell? ⟨bb, 9, none⟩ = some (.bool tr)) : Calls Yba.prog 14 #[.pointer (some ⟨bb, 0, none⟩)] w fun e w' => e = .returned (.bool tr) ∧ w' = w := by
  go_enter Yba.func14, Yba.ntmps14
  go_wp2
  go_ret
  exact ⟨rfl, rfl⟩
end Go.Proofs.Ybulkeesq
