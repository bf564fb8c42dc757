/- Operations on arrays of bytes, one by one. -/
import Derived.Test.YbulkeeroRt
namespace Go.Proofs.Ybulkeero
open Go.RowKit Go.Joins

theorem Yba.size162 : (Yba.prog.info? 162).map (·.size) = some 51 := by kernel_rfl
theorem Yba.row3 : (Yba.prog.info? 3).map (fun i => (i.zero.map (·.cells.size), i.size, i.bytes)) = some (some 1, 1, 8) := by kernel_rfl
theorem Yba.row25 : (Yba.prog.info? 25).map (fun i => (i.zero.map (·.cells.size), i.size, i.bytes)) = some (some 1, 1, 24) := by kernel_rfl

theorem wp_value {P : Program} {o : Oper} {a : Act} {w w' : World} {K : Act → World → Prop} {Q : Exit → Act → World → Prop} {v : Value} (h : (execOp a.eval o).run P w = .ok (.value v) w') (hk : K (a.put o.dst v) w') : o.wp P a w K Q := by
  unfold Oper.wp
  rw [h]
  exact hk
theorem wp_same {P : Program} {o : Oper} {a : Act} {w : World} {K : Act → World → Prop} {Q : Exit → Act → World → Prop} (v : Value) (h : (execOp a.eval o).run P w = .ok (.value v) w) (hk : K (a.put o.dst v) w) : o.wp P a w K Q := wp_value h hk
theorem wp_skip' {P : Program} {o : Oper} {a : Act} {w w' : World} {K : Act → World → Prop} {Q : Exit → Act → World → Prop} (h : (execOp a.eval o).run P w = .ok .skip w') (hk : K (a.put o.dst undef) w') : o.wp P a w K Q := by
  unfold Oper.wp
  rw [h]
  exact hk
theorem wpList_value {P : Program} {ops : Array Oper} {rest : List Oper} {Q : Exit → Act → World → Prop} {o : Oper} {a : Act} {w w' : World} (hgd : o.guard = none) {v : Value} (h : (execOp a.eval o).run P w = .ok (.value v) w') (hk : wpList P ops Q rest (a.put o.dst v) w') : wpList P ops Q (o :: rest) a w :=
  wpList_plain hgd fun _ hK => wp_value h (hK _ _ hk)
theorem wpList_skip {P : Program} {ops : Array Oper} {rest : List Oper} {Q : Exit → Act → World → Prop} {o : Oper} {a : Act} {w w' : World} (hgd : o.guard = none) (h : (execOp a.eval o).run P w = .ok .skip w') (hk : wpList P ops Q rest (a.put o.dst undef) w') : wpList P ops Q (o :: rest) a w :=
  wpList_plain hgd fun _ hK => wp_skip' h (hK _ _ hk)

theorem exec_load_mid {P : Program} {ρ : Operand → Value} {o : Oper} {w : World} (ty : TypeId) (x : Operand) (ho : o.op = .load ty x) (b off : Nat) (hx : ρ x = .pointer (some ⟨b, off, none⟩)) (cs : List Value) (d : TypeDesc) (hc : w.rangeAt b off cs)
    (hu : P.underlying ty = some d) (hd : d.isRow = true) (hi : (P.info? ty).map (·.size) = some cs.length) : (execOp ρ o).run P w = .ok (.value (.agg cs.toArray)) w := by
  unfold execOp
  simp only [ho, hx, Sem.run_bind, Sem.run_pure, Result.andThen_ok, run_loadAt_mid w b off ty cs d hc hu hd hi]
theorem exec_store_mid {P : Program} {ρ : Operand → Value} {o : Oper} {w : World} (ty : TypeId) (x y : Operand) (ho : o.op = .store ty x y) (b off : Nat) (cells : Array Value) (hx : ρ x = .pointer (some ⟨b, off, none⟩)) (hy : ρ y = .agg cells)
    (ht : w.there b off cells.size) (hi : (P.info? ty).map (·.size) = some cells.size) (h1 : cells.all (·.oneCell') = true) : (execOp ρ o).run P w = .ok .skip (w.setCells b off cells.toList) := by
  unfold execOp
  simp only [ho, hx, hy, Sem.run_bind, Sem.run_pure, Result.andThen_ok, run_storeAt_mid w b off ty cells ht hi h1]

theorem load27 {ρ : Operand → Value} {o : Oper} {w : World} {x : Operand} (ho : o.op = .load 27 x) {b off : Nat} (hx : ρ x = .pointer (some ⟨b, off, none⟩)) {id : List Int} (hl : id.length = 20) (hc : w.rangeAt b off (by8 id)) : (execOp ρ o).run Yba.prog w = .ok (.value (.agg (by8 id).toArray)) w :=
  exec_load_mid 27 x ho b off hx (by8 id) _ hc Yba.underlying27 rfl (by rw [by8_length, hl]; exact Yba.size27)

set_option maxHeartbeats 1000000 in
theorem buildSlice27 (w : World) (id : List Int) (hl : id.length = 20) :
    (Instr.buildSlice 28 1 #[(0, .agg (by8 id).toArray)]).run Yba.prog w = .ok (.slice (some ⟨w.heap.size, 0, none⟩) 1 1) (w.alloc (.cells (by8 id).toArray 27)) := by
  obtain ⟨k0, k1, k2, k3, k4, k5, k6, k7, k8, k9, k10, k11, k12, k13, k14, k15, k16, k17, k18, k19, rfl⟩ := list20 hl
  simp [by8, go_sem]
theorem buildSlice_exec {ρ : Operand → Value} {o : Oper} {w : World} {x : Operand} (ho : o.op = .buildSlice 28 1 #[(0, x)]) {id : List Int} (hl : id.length = 20) (hx : ρ x = .agg (by8 id).toArray) :
    (execOp ρ o).run Yba.prog w = .ok (.value (.slice (some ⟨w.heap.size, 0, none⟩) 1 1)) (w.alloc (.cells (by8 id).toArray 27)) := by
  unfold execOp
  simp only [ho, List.map_toArray, List.map_cons, List.map_nil, hx, Sem.run_bind, buildSlice27 w id hl, Result.andThen_ok, Sem.run_pure]

/-- A contact of an id, the rest of it zero. -/
def contact (id : List Int) : List Int := id ++ List.replicate 31 0
theorem contact_length {id : List Int} (hl : id.length = 20) : (by8 (contact id)).length = 51 := by rw [by8_length, contact, List.length_append, hl, List.length_replicate]
theorem contact_size {id : List Int} (hl : id.length = 20) : (by8 (contact id)).toArray.size = 51 := contact_length hl
set_option maxHeartbeats 1000000 in
theorem build162 (w : World) (id : List Int) (hl : id.length = 20) :
    (Instr.build 162 #[(0, .agg (by8 id).toArray)]).run Yba.prog w = .ok (.agg (by8 (contact id)).toArray) w := by
  obtain ⟨k0, k1, k2, k3, k4, k5, k6, k7, k8, k9, k10, k11, k12, k13, k14, k15, k16, k17, k18, k19, rfl⟩ := list20 hl
  simp [by8, contact, go_sem, List.replicate]
theorem build162_exec {ρ : Operand → Value} {o : Oper} {w : World} {x : Operand} (ho : o.op = .build 162 #[(0, x)]) {id : List Int} (hl : id.length = 20) (hx : ρ x = .agg (by8 id).toArray) :
    (execOp ρ o).run Yba.prog w = .ok (.value (.agg (by8 (contact id)).toArray)) w := by
  unfold execOp
  simp only [ho, List.map_toArray, List.map_cons, List.map_nil, hx, Sem.run_bind, build162 w id hl, Result.andThen_ok, Sem.run_pure]

theorem store28 {ρ : Operand → Value} {o : Oper} {w : World} {x y : Operand} (ho : o.op = .store 28 x y) {b off : Nat} (hx : ρ x = .pointer (some ⟨b, off, none⟩)) {a : Option Addr} {n c : Nat} (hy : ρ y = .slice a n c) {u : Value} (hc : w.cell? ⟨b, off, none⟩ = some u) (hf : w.frozen? ⟨b, off, none⟩ = false) :
    (execOp ρ o).run Yba.prog w = .ok .skip (w.setCell ⟨b, off, none⟩ (.slice a n c)) := by
  unfold execOp
  simp [ho, hx, hy, go_sem, hc, hf]
theorem store31 {ρ : Operand → Value} {o : Oper} {w : World} {x y : Operand} (ho : o.op = .store 31 x y) {b off : Nat} (hx : ρ x = .pointer (some ⟨b, off, none⟩)) {a : Option Addr} {n c : Nat} (hy : ρ y = .slice a n c) {u : Value} (hc : w.cell? ⟨b, off, none⟩ = some u) (hf : w.frozen? ⟨b, off, none⟩ = false) :
    (execOp ρ o).run Yba.prog w = .ok .skip (w.setCell ⟨b, off, none⟩ (.slice a n c)) := by
  unfold execOp
  simp [ho, hx, hy, go_sem, hc, hf]

/-- What a region that appends an id to a field of the router reads. -/
structure AppS (rb k : Nat) (v : Value) (bx : Nat) (id : List Int) (w : World) : Prop where
  cell : w.cell? ⟨rb, k, none⟩ = some v
  box : w.rangeAt bx 0 (by8 id)
theorem AppS.grown {rb k : Nat} {v : Value} {bx : Nat} {id : List Int} {w w' : World} {r : Option Nat} (h : AppS rb k v bx id w) (hg : w.grownBy w' r) (h1 : r ≠ some rb) (h2 : r ≠ some bx) : AppS rb k v bx id w' :=
  ⟨cell_grown h.cell hg h1, range_grown h.box hg h2⟩
theorem range_new (w : World) (l : List Value) (t : TypeId) : (w.alloc (.cells l.toArray t)).rangeAt w.heap.size 0 l := fun j v hj => by
  rw [Nat.zero_add, cell_of_block (heap_new w _)]
  simpa using hj
theorem there_new (w : World) (C : Array Value) (t : TypeId) (n : Nat) (hn : C.size = n) : (w.alloc (.cells C t)).there w.heap.size 0 n := fun j hj => by
  have hh : (w.alloc (.cells C t)).heap[w.heap.size]? = some (.cells C t (0, 0)) := heap_new w _
  refine ⟨?_, unfrozen_of_block hh _⟩
  rw [cell_of_block hh, Nat.zero_add]
  simp [hn, hj]
theorem there_grown {w w' : World} {r : Option Nat} {b o n : Nat} (h : w.there b o n) (hg : w.grownBy w' r) (hr : r ≠ some b) (hlt : b < w.heap.size) : w'.there b o n := fun j hj => by
  obtain ⟨h1, h2⟩ := h j hj
  have e := hg.block b hlt (Ne.symm hr)
  constructor
  · rw [← h1]; unfold World.cell?; simp only [e]
  · rw [← h2]; unfold World.frozen?; simp only [e]
end Go.Proofs.Ybulkeero
