/- The law 6553C: the values that are built. -/
import Derived.Test.YbulkeeroCNext
namespace Go.Proofs.Ybulkeero
open Go.RowKit Go.Joins

def slotE (key : List Int) : List Value := by8 key ++ [.int .u32 0, .int .u32 0]
theorem buildS142 (w : World) (key : List Int) (hk : key.length = 20) : (Instr.build 142 #[(0, .agg (by8 key).toArray)]).run Yba.prog w = .ok (.agg (slotE key).toArray) w := by
  obtain ⟨k0, k1, k2, k3, k4, k5, k6, k7, k8, k9, k10, k11, k12, k13, k14, k15, k16, k17, k18, k19, rfl⟩ := list20 hk
  simp [go_sem, by8, slotE]
set_option maxHeartbeats 4000000 in
theorem build145 (w : World) (key far : List Int) (cnt : Int) (whole aside conf : Bool) (ib : Nat) (hk : key.length = 20) (hf : far.length = 20) : (Instr.build 145 #[(0, .agg (slotE key).toArray), (1, .agg (by8 far).toArray), (2, .int .i32 cnt), (3, .bool whole), (4, .bool aside), (5, .bool conf), (7, .pointer (some ⟨ib, 0, none⟩))]).run Yba.prog w = .ok (.agg (entE key far cnt whole aside conf ib).toArray) w := by
  obtain ⟨k0, k1, k2, k3, k4, k5, k6, k7, k8, k9, k10, k11, k12, k13, k14, k15, k16, k17, k18, k19, rfl⟩ := list20 hk
  obtain ⟨f0, f1, f2, f3, f4, f5, f6, f7, f8, f9, f10, f11, f12, f13, f14, f15, f16, f17, f18, f19, rfl⟩ := list20 hf
  simp [go_sem, by8, slotE, entE]
theorem build137 (w : World) : (Instr.build 137 #[]).run Yba.prog w = .ok (.agg #[.pointer none, .int .i64 0]) w := by
  simp [go_sem]
theorem build127 (w : World) (wid : Nat) : (Instr.build 127 #[(0, .int .i64 (wid : Int))]).run Yba.prog w = .ok (.agg #[.int .i64 (wid : Int), .map none, .pointer none]) w := by
  simp [go_sem]
def z145 : List Value := entE (List.replicate 20 0) (List.replicate 20 0) 0 false false false 0 |>.set 47 (.pointer none)
theorem alloc145 (w : World) : (Instr.alloc 145 true (.tuple #[])).run Yba.prog w = .ok (.pointer (some ⟨w.heap.size, 0, none⟩)) (w.alloc (.cells z145.toArray 145)) := by kernel_rfl
theorem exec_alloc145 {ρ : Operand → Value} {o : Oper} {w : World} (ho : o.op = .alloc 145) : (execOp ρ o).run Yba.prog w = .ok (.value (.pointer (some ⟨w.heap.size, 0, none⟩))) (w.alloc (.cells z145.toArray 145)) := by
  have hz := alloc145 w
  unfold execOp
  simp [ho, hz]
theorem exec_store145 {ρ : Operand → Value} {o : Oper} {w : World} {x y : Operand} (ho : o.op = .store 145 x y) {b off : Nat} (hx : ρ x = .pointer (some ⟨b, off, none⟩)) {E : List Value} (hy : ρ y = .agg E.toArray) (hl : E.length = 48) (h1 : ∀ v ∈ E, v.oneCell' = true) (ht : w.there b off 48) : (execOp ρ o).run Yba.prog w = .ok .skip (w.setCells b off E) :=
  exec_store_mid 145 x y ho b off E.toArray hx hy (by show World.there _ _ _ E.length; rw [hl]; exact ht) (by show _ = some E.length; rw [hl]; exact Yba.size145) (all_oneCell_toArray h1)
theorem exec_store132 {ρ : Operand → Value} {o : Oper} {w : World} {x y : Operand} (ho : o.op = .store 132 x y) {b off : Nat} (hx : ρ x = .pointer (some ⟨b, off, none⟩)) {m : Option Addr} (hy : ρ y = .pointer m) (ht : w.there b off 1) : (execOp ρ o).run Yba.prog w = .ok .skip (w.setCells b off [.pointer m]) := by
  have h0 := ht 0 (by decide)
  obtain ⟨u, hu⟩ := Option.isSome_iff_exists.1 h0.1
  rw [Nat.add_zero] at hu
  have hf := h0.2
  rw [Nat.add_zero] at hf
  unfold execOp
  simp [ho, hx, hy, go_sem, hu, hf, World.setCells]
theorem exec_storeC47 {ρ : Operand → Value} {o : Oper} {w : World} {x y : Operand} (ho : o.op = .store 47 x y) {b off : Nat} (hx : ρ x = .pointer (some ⟨b, off, none⟩)) {a : Option Addr} {n c : Nat} (hy : ρ y = .slice a n c) (ht : w.there b off 1) : (execOp ρ o).run Yba.prog w = .ok .skip (w.setCells b off [.slice a n c]) := by
  have h0 := ht 0 (by decide)
  obtain ⟨u, hu⟩ := Option.isSome_iff_exists.1 h0.1
  rw [Nat.add_zero] at hu
  have hf := h0.2
  rw [Nat.add_zero] at hf
  unfold execOp
  simp [ho, hx, hy, go_sem, hu, hf, World.setCells]
end Go.Proofs.Ybulkeero
