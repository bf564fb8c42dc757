/- Mark, wherever the Builder lies. -/
import Derived.Test.YbulkeesqApply
namespace Go.Proofs.Ybulkeesq
open Go.RowKit Go.Joins

/-- The Builder, its mark set. -/
def St.marked (s : St) : St := { s with m0 := .int .i64 s.nv, m1 := .int .i64 s.sts.length, m2 := .int .i64 0, m3 := .int .i64 0, m4 := .int .i64 s.ni, m5 := .int .i64 s.nd, m6 := .int .i64 s.nx, m7 := .int .i64 s.tk, m8 := .bool s.tr }

def MarkPost (bb : Nat) (s : St) (w : World) (e : Ending) (w' : World) : Prop := e = .returned (.tuple #[]) ∧ Inv bb w' s.marked ∧ Below bb w w'

theorem Rows5.mark {bb : Nat} {w : World} {s : St} (h : Rows5 bb w s) (a b c d e f g i j : Value) : Rows5 bb w { s with m0 := a, m1 := b, m2 := c, m3 := d, m4 := e, m5 := f, m6 := g, m7 := i, m8 := j } :=
  ⟨h.v, h.o, h.i, h.d, h.x, h.vi, h.vd, h.id, h.le, h.up⟩

/-- A Builder while its own fields are written. -/
structure Own (bb : Nat) (W0 w : World) (s : St) (C : Array Value) : Prop where
  blk : w.heap[bb]? = some (.cells C 35 (0, 0))
  rows : Rows5 bb w s
  below : Below bb W0 w
theorem Own.start {bb : Nat} {w : World} {s : St} (h : Inv bb w s) : Own bb w w s s.cells := ⟨h.blk, h.rows, Below.refl _ _⟩
theorem Own.set {bb : Nat} {W0 w : World} {s : St} {C : Array Value} (h : Own bb W0 w s C) (i : Nat) (v : Value) : Own bb W0 (w.setCell ⟨bb, i, none⟩ v) s (C.setIfInBounds i v) :=
  ⟨by rw [block_setCell h.blk], h.rows.own i v, h.below.setCell (p := ⟨bb, i, none⟩) (Nat.le_refl _) v⟩
theorem Own.drew {bb : Nat} {W0 w : World} {s : St} {C : Array Value} (h : Own bb W0 w s C) : Own bb W0 w.drew s C := ⟨h.blk, h.rows.drew, h.below.drew⟩

theorem marked_cells (s : St) : ((((((((s.cells.setIfInBounds 10 (.int .i64 s.nv)).setIfInBounds 11 (.int .i64 s.sts.length)).setIfInBounds 12 (.int .i64 0)).setIfInBounds 13 (.int .i64 0)).setIfInBounds 14 (.int .i64 s.ni)).setIfInBounds 15 (.int .i64 s.nd)).setIfInBounds 16 (.int .i64 s.nx)).setIfInBounds 17 (.int .i64 s.tk)).setIfInBounds 18 (.bool s.tr) = s.marked.cells := by
  simp [St.cells, St.marked]
theorem mark_done {bb : Nat} {w : World} {s : St} (h : Inv bb w s) : MarkPost bb s w (.returned (.tuple #[])) (((((((((w.setCell ⟨bb, 10, none⟩ (.int .i64 s.nv)).setCell ⟨bb, 11, none⟩ (.int .i64 s.sts.length)).setCell ⟨bb, 12, none⟩ (.int .i64 0)).setCell ⟨bb, 13, none⟩ (.int .i64 0)).setCell ⟨bb, 14, none⟩ (.int .i64 s.ni)).setCell ⟨bb, 15, none⟩ (.int .i64 s.nd)).setCell ⟨bb, 16, none⟩ (.int .i64 s.nx)).setCell ⟨bb, 17, none⟩ (.int .i64 s.tk)).setCell ⟨bb, 18, none⟩ (.bool s.tr)).drew.drew.drew.drew := by
  have q := (((((((((Own.start h).set 10 (.int .i64 s.nv)).set 11 (.int .i64 s.sts.length)).set 12 (.int .i64 0)).set 13 (.int .i64 0)).set 14 (.int .i64 s.ni)).set 15 (.int .i64 s.nd)).set 16 (.int .i64 s.nx)).set 17 (.int .i64 s.tk)).set 18 (.bool s.tr)
  rw [marked_cells] at q
  have q4 := q.drew.drew.drew.drew
  exact ⟨rfl, ⟨q4.blk, q4.rows.mark _ _ _ _ _ _ _ _ _⟩, q4.below⟩

set_option maxHeartbeats 400000 in
theorem mark_any (bb : Nat) (s : St) (w : World) (h : Inv bb w s) : Calls Yba.prog 6 #[.pointer (some ⟨bb, 0, none⟩)] w (MarkPost bb s w) := by
  have c1 : w.cell? ⟨bb, 1, none⟩ = some (.slice s.av s.nv s.cv) := h.cell 1
  have c2 : w.cell? ⟨bb, 2, none⟩ = some (.slice s.ao s.sts.length s.co) := h.cell 2
  have c3 : w.cell? ⟨bb, 3, none⟩ = some (.slice none 0 0) := h.cell 3
  have c4 : w.cell? ⟨bb, 4, none⟩ = some (.slice none 0 0) := h.cell 4
  have c5 : w.cell? ⟨bb, 5, none⟩ = some (.slice s.ai s.ni s.ci) := h.cell 5
  have c6 : w.cell? ⟨bb, 6, none⟩ = some (.slice s.ad s.nd s.cd) := h.cell 6
  have c7 : w.cell? ⟨bb, 7, none⟩ = some (.slice s.ax s.nx s.cx) := h.cell 7
  have c8 : w.cell? ⟨bb, 8, none⟩ = some (.int .i64 s.tk) := h.cell 8
  have c9 : w.cell? ⟨bb, 9, none⟩ = some (.bool s.tr) := h.cell 9
  have d0 : w.cell? ⟨bb, 10, none⟩ = some s.m0 := h.cell 10
  have d1 : w.cell? ⟨bb, 11, none⟩ = some s.m1 := h.cell 11
  have d2 : w.cell? ⟨bb, 12, none⟩ = some s.m2 := h.cell 12
  have d3 : w.cell? ⟨bb, 13, none⟩ = some s.m3 := h.cell 13
  have d4 : w.cell? ⟨bb, 14, none⟩ = some s.m4 := h.cell 14
  have d5 : w.cell? ⟨bb, 15, none⟩ = some s.m5 := h.cell 15
  have d6 : w.cell? ⟨bb, 16, none⟩ = some s.m6 := h.cell 16
  have d7 : w.cell? ⟨bb, 17, none⟩ = some s.m7 := h.cell 17
  have d8 : w.cell? ⟨bb, 18, none⟩ = some s.m8 := h.cell 18
  have f0 := h.fr 10
  have f1 := h.fr 11
  have f2 := h.fr 12
  have f3 := h.fr 13
  have f4 := h.fr 14
  have f5 := h.fr 15
  have f6 := h.fr 16
  have f7 := h.fr 17
  have f8 := h.fr 18
  have HI := hid h
  clear h
  go_enter Yba.func6, Yba.ntmps6
  go_wp2
  go_region
  go_wp2
  go_region
  go_wp2
  go_region
  go_wp2
  go_region
  go_wp2
  go_end0
  exact mark_done HI.out
end Go.Proofs.Ybulkeesq
