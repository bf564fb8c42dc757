/- A slot built out of a key's bytes. -/
import Derived.Test.YbulkeeroBe
namespace Go.Proofs.Ybulkeero
open Go.RowKit Go.Joins

theorem list20 {α : Type} {l : List α} (h : l.length = 20) : ∃ k0 k1 k2 k3 k4 k5 k6 k7 k8 k9 k10 k11 k12 k13 k14 k15 k16 k17 k18 k19, l = [k0, k1, k2, k3, k4, k5, k6, k7, k8, k9, k10, k11, k12, k13, k14, k15, k16, k17, k18, k19] := by
  match l, h with
  | [k0, k1, k2, k3, k4, k5, k6, k7, k8, k9, k10, k11, k12, k13, k14, k15, k16, k17, k18, k19], _ => exact ⟨k0, k1, k2, k3, k4, k5, k6, k7, k8, k9, k10, k11, k12, k13, k14, k15, k16, k17, k18, k19, rfl⟩

set_option maxHeartbeats 1000000 in
theorem build142 (w : World) (key : List Int) (kind id : Int) (hl : key.length = 20) :
    (Instr.build 142 #[(0, .agg (by8 key).toArray), (1, .int .u32 kind), (2, .int .u32 id)]).run Yba.prog w = .ok (.agg (by8 key ++ [Value.int .u32 kind, Value.int .u32 id]).toArray) w := by
  obtain ⟨k0, k1, k2, k3, k4, k5, k6, k7, k8, k9, k10, k11, k12, k13, k14, k15, k16, k17, k18, k19, rfl⟩ := list20 hl
  simp [by8, go_sem]
end Go.Proofs.Ybulkeero
