/- The map of groups: looked into, and added to. -/
import Derived.Test.YbulkeeroMap
namespace Go.Proofs.Ybulkeero
open Go.RowKit Go.Joins

theorem check5 (w : World) (b : Bool) (n : Nat) (z : Int) : (Instr.checkKey b (n + 1) 5 (.int .u8 z)).run Yba.prog w = .ok () w := by
  simp [Instr.checkKey, run_underlying Yba.underlying5]
theorem check3 (w : World) (b : Bool) (n : Nat) (z : Int) : (Instr.checkKey b (n + 1) 3 (.int .i64 z)).run Yba.prog w = .ok () w := by
  simp [Instr.checkKey, run_underlying Yba.underlying3]
set_option maxRecDepth 20000 in
theorem check27 (w : World) (b : Bool) (n : Nat) (P : List Int) (hp : P.length = 20) : (Instr.checkKey b (n + 1 + 1) 27 (.agg (by8 P).toArray)).run Yba.prog w = .ok () w := by
  obtain ⟨k0, k1, k2, k3, k4, k5, k6, k7, k8, k9, k10, k11, k12, k13, k14, k15, k16, k17, k18, k19, rfl⟩ := list20 hp
  unfold Instr.checkKey
  simp [run_underlying Yba.underlying27, go_sem, check5, by8, Std.Legacy.Range.forIn_eq_forIn_range', List.range', part]
theorem check139 (w : World) (b : Bool) (d : Nat) (P : List Int) (hp : P.length = 20) : (Instr.checkKey b 10000 139 (rv d P)).run Yba.prog w = .ok () w := by
  have h27 := check27 w b 9997 P hp
  have h3 := check3 w b 9998 (d : Int)
  have tp : (by8 P).take 20 = by8 P := List.take_of_length_le (by rw [by8_length]; omega)
  unfold rv rcells Instr.checkKey
  simp [run_underlying Yba.underlying139, go_sem, part, tp, h27, h3]

theorem getObj_map {P : Program} {w : World} {r : Nat} {es : Array MapEntry} {clock : Nat} (hb : w.heap[r]? = some (.map es clock)) : (getObj r).run P w = .ok (.map es clock) w := by simp [getObj, Sem.run, hb]
/-- Another object in a block. -/
def putO (w : World) (r : Nat) (o : Obj) : World := { w with heap := w.heap.setIfInBounds r o }
theorem setObj_map {P : Program} {w : World} {r : Nat} {es : Array MapEntry} {clock : Nat} (hb : w.heap[r]? = some (.map es clock)) (o : Obj) : (setObj r o).run P w = .ok () (putO w r o) := by simp [setObj, Sem.run, hb, putO]
theorem putO_same {w : World} {r : Nat} {o : Obj} (h : r < w.heap.size) : (putO w r o).heap[r]? = some o := by simp [putO, h]
theorem putO_other {w : World} {r k : Nat} {o : Obj} (h : k ≠ r) : (putO w r o).heap[k]? = w.heap[k]? := by simp [putO, Array.getElem?_setIfInBounds_ne (Ne.symm h)]
theorem putO_grown (w : World) (r : Nat) (o : Obj) : w.grownBy (putO w r o) (some r) := ⟨rfl, rfl, rfl, by simp [putO], fun k _ hk => putO_other (fun e => hk (by rw [e]))⟩

theorem lookup139 (w : World) (mb d clock : Nat) (P : List Int) (hp : P.length = 20) (es : Array MapEntry) (gs : List Gr) (hm : w.heap[mb]? = some (.map es clock)) (h : MapIs es.toList gs) :
    (Instr.lookup 125 (.map (some mb)) (rv d P) false).run Yba.prog w = .ok (((gs.findIdx? (hit d P)).map fun j => ((gs[j]?).map Gr.ptr).getD (.pointer none)).getD (.pointer none)) w := by
  have hf := findKey139 w d P hp es.toList gs h
  have hc := fun b => check139 w b d P hp
  unfold Instr.lookup
  cases hfi : gs.findIdx? (hit d P) with
  | none =>
    rw [hfi] at hf
    simp [run_underlying Yba.underlying125, go_sem, getObj_map hm, hc, hf]
  | some j =>
    rw [hfi] at hf
    simp [run_underlying Yba.underlying125, go_sem, getObj_map hm, hc, hf]

/-- A key that is not there yet. -/
theorem update139 (w : World) (mb d clock : Nat) (P : List Int) (hp : P.length = 20) (es : Array MapEntry) (gs : List Gr) (hm : w.heap[mb]? = some (.map es clock)) (h : MapIs es.toList gs) (hno : gs.findIdx? (hit d P) = none) (v : Value) :
    (Instr.mapUpdate 125 (.map (some mb)) (rv d P) v).run Yba.prog w = .ok () (putO w mb (.map (es.push { key := rv d P, val := v, born := clock }) (clock + 1))) := by
  have hf := findKey139 w d P hp es.toList gs h
  rw [hno] at hf
  have hc := fun b => check139 w b d P hp
  have hs := fun o => setObj_map (P := Yba.prog) hm o
  unfold Instr.mapUpdate
  simp [run_underlying Yba.underlying125, go_sem, getObj_map hm, hc, hf, hs]
theorem MapIs.push {es : Array MapEntry} {gs : List Gr} {d b clock : Nat} {P : List Int} (h : MapIs es.toList gs) (hp : P.length = 20) : MapIs (es.push { key := rv d P, val := .pointer (some ⟨b, 0, none⟩), born := clock }).toList (gs ++ [⟨d, P, b⟩]) := by
  refine ⟨?_, fun g hg => ?_⟩
  · simp [h.kv, Gr.ptr]
  · rcases List.mem_append.1 hg with hg | hg
    · exact h.len g hg
    · rw [List.mem_singleton.1 hg]; exact hp
end Go.Proofs.Ybulkeero
