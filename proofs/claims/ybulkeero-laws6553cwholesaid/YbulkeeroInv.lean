/- The router's methods, called through the interface. -/
import Derived.Test.YbulkeeroClosest
namespace Go.Proofs.Ybulkeero
open Go.RowKit Go.Joins
/-- The router, as the store holds it. -/
def rtv (rb : Nat) : Value := .iface 29 (.pointer (some ⟨rb, 0, none⟩))
theorem meth70 (rb : Nat) (w : World) : (method 384 29 (.pointer (some ⟨rb, 0, none⟩)) "ClosestIDs").run Yba.prog w = .ok (70, .pointer (some ⟨rb, 0, none⟩)) w := by kernel_rfl
theorem meth71 (rb : Nat) (w : World) : (method 384 29 (.pointer (some ⟨rb, 0, none⟩)) "Contact").run Yba.prog w = .ok (71, .pointer (some ⟨rb, 0, none⟩)) w := by kernel_rfl
theorem meth69 (rb : Nat) (w : World) : (method 384 29 (.pointer (some ⟨rb, 0, none⟩)) "Call").run Yba.prog w = .ok (69, .pointer (some ⟨rb, 0, none⟩)) w := by kernel_rfl
theorem inv70 {ρ : Operand → Value} {o : Oper} {w : World} {x y z : Operand} (ho : o.op = .call { callee := .invoke x "ClosestIDs", args := #[y, z], argTypes := #[27, 3] }) {rb : Nat} (hx : ρ x = rtv rb) {u v : Value} (hy : ρ y = u) (hz : ρ z = v) :
    (execOp ρ o).run Yba.prog w = .ok (.enter 70 #[.pointer (some ⟨rb, 0, none⟩), u, v]) w := by
  unfold execOp
  simp only [ho, resolve, List.map_toArray, List.map_cons, List.map_nil, hx, hy, hz, rtv]
  simp [go_sem, invoke, meth70]
theorem inv71 {ρ : Operand → Value} {o : Oper} {w : World} {x y : Operand} (ho : o.op = .call { callee := .invoke x "Contact", args := #[y], argTypes := #[27] }) {rb : Nat} (hx : ρ x = rtv rb) {u : Value} (hy : ρ y = u) :
    (execOp ρ o).run Yba.prog w = .ok (.enter 71 #[.pointer (some ⟨rb, 0, none⟩), u]) w := by
  unfold execOp
  simp only [ho, resolve, List.map_toArray, List.map_cons, List.map_nil, hx, hy, rtv]
  simp [go_sem, invoke, meth71]
theorem inv69 {ρ : Operand → Value} {o : Oper} {w : World} {x y z t : Operand} (ho : o.op = .call { callee := .invoke x "Call", args := #[y, z, t], argTypes := #[162, 25, 166] }) {rb : Nat} (hx : ρ x = rtv rb) {u v f : Value} (hy : ρ y = u) (hz : ρ z = v) (ht : ρ t = f) :
    (execOp ρ o).run Yba.prog w = .ok (.enter 69 #[.pointer (some ⟨rb, 0, none⟩), u, v, f]) w := by
  unfold execOp
  simp only [ho, resolve, List.map_toArray, List.map_cons, List.map_nil, hx, hy, hz, ht, rtv]
  simp [go_sem, invoke, meth69]
end Go.Proofs.Ybulkeero
