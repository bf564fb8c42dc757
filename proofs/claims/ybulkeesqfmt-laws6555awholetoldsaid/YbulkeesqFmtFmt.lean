/- The closed facts for the walk over fmt.Errorf's stopped front, and the contract of the one call that this program makes of it. -/
import Derived.Test.YbulkeesqFmtProg
import Derived.Stop.CallBack
import Derived.Stop.IfaceNil
import Derived.WalkKit
import Derived.WalkSmall
import Derived.WalkSpells
namespace Go.Proofs.YbulkeesqFmt
open Go.RowKit Go.Extern.Stop Go.Stop Go.Extern

theorem Ybaf.call12 (args : Array Value) (w : World) : (callFunc 12 args).run Ybaf.prog w = ((FmtStop.errorf #[9, 50] #[27] args).run Ybaf.prog w).andThen fun v w' => .ok (.value v) w' :=
  run_callFunc_extern Ybaf.func12 (by kernel_rfl) (by kernel_rfl) (by kernel_rfl) (by kernel_rfl) args w
theorem Ybaf.guard (name : String) (w : World) : (FmtStop.guard name).run Ybaf.prog w = .ok () w := by kernel_rfl

def formatB : ByteArray := ⟨#[97, 32, 37, 115, 32, 111, 102, 32, 37, 100, 32, 98, 121, 116, 101, 115, 32, 105, 115, 32, 108, 111, 110, 103, 101, 114, 32, 116, 104, 97, 110, 32, 97, 110, 32, 65, 77, 70, 48, 32, 37, 115, 32, 99, 97, 110, 32, 98, 101, 32, 40, 37, 100, 41]⟩
theorem Ybaf.fmt0 : FmtStop.printed? ⟨#[97, 32, 37, 115, 32, 111, 102, 32, 37, 100, 32, 98, 121, 116, 101, 115, 32, 105, 115, 32, 108, 111, 110, 103, 101, 114, 32, 116, 104, 97, 110, 32, 97, 110, 32, 65, 77, 70, 48, 32, 37, 115, 32, 99, 97, 110, 32, 98, 101, 32, 40, 37, 100, 41]⟩ 4 = some [(0, 115, false), (1, 100, false), (2, 115, false), (3, 100, false)] := by kernel_rfl
theorem Ybaf.fmt0r (w : World) : (FmtDoors.printed ⟨#[97, 32, 37, 115, 32, 111, 102, 32, 37, 100, 32, 98, 121, 116, 101, 115, 32, 105, 115, 32, 108, 111, 110, 103, 101, 114, 32, 116, 104, 97, 110, 32, 97, 110, 32, 65, 77, 70, 48, 32, 37, 115, 32, 99, 97, 110, 32, 98, 101, 32, 40, 37, 100, 41]⟩ 4).run Ybaf.prog w = .ok [(0, 115, false), (1, 100, false), (2, 115, false), (3, 100, false)] w := by kernel_rfl
def Ybaf.shape9 : List UInt8 := [12, 6, 0, 0, 0, 0, 0, 0, 0, 115, 116, 114, 105, 110, 103]
def Ybaf.shape30 : List UInt8 := [9, 6, 0, 0, 0, 0, 0, 0, 0, 117, 105, 110, 116, 54, 52]
theorem Ybaf.op9 (name : String) (x : ByteArray) (w : World) : (FmtStop.operand name true 115 false (.iface 9 (.string x))).run Ybaf.prog w = .ok (Ybaf.shape9, FmtStop.pack x.data.toList) w := by kernel_rfl
theorem Ybaf.op30 (name : String) (x : Int) (w : World) : (FmtStop.operand name true 100 false (.iface 30 (.int .u64 x))).run Ybaf.prog w = .ok (Ybaf.shape30, Go.Extern.Stop.digits 8 (x % 2 ^ 64).toNat) w := by kernel_rfl
theorem Ybaf.ptr38 (w : World) : (FmtStop.ptrTo "errors.errorString").run Ybaf.prog w = .ok 38 w := by kernel_rfl
theorem Ybaf.elem38 (w : World) : (elemOf 38).run Ybaf.prog w = .ok 40 w := by kernel_rfl

attribute [local go_sem] Ybaf.call12 Ybaf.guard Ybaf.fmt0 Ybaf.fmt0r Ybaf.op9 Ybaf.op30 Ybaf.ptr38 Ybaf.elem38

theorem errorf_any (F : Interp) (x : ByteArray) (n m : Int) (g : Nat) (w : World) (hF : F.answers w.tape) (c0 : w.cell? ⟨g, 0, none⟩ = some (.iface 9 (.string x))) (c1 : w.cell? ⟨g, 1, none⟩ = some (.iface 30 (.int .u64 n)))
    (c2 : w.cell? ⟨g, 2, none⟩ = some (.iface 9 (.string x))) (c3 : w.cell? ⟨g, 3, none⟩ = some (.iface 30 (.int .u64 m))) :
    Calls Ybaf.prog 9 #[.string ⟨#[97, 32, 37, 115, 32, 111, 102, 32, 37, 100, 32, 98, 121, 116, 101, 115, 32, 105, 115, 32, 108, 111, 110, 103, 101, 114, 32, 116, 104, 97, 110, 32, 97, 110, 32, 65, 77, 70, 48, 32, 37, 115, 32, 99, 97, 110, 32, 98, 101, 32, 40, 37, 100, 41]⟩, .slice (some ⟨g, 0, none⟩) 4 4] w fun e w' => e = .returned (.iface 38 (.pointer (some ⟨w.heap.size, 0, none⟩))) ∧ ∃ s, w' = (w.alloc (.cells #[.string s] 40)).drew := by
  have hF' := answers_open hF
  go_enter Ybaf.func9, Ybaf.ntmps9
  go_wp2
  go_ret
  exact ⟨rfl, _, rfl⟩
end Go.Proofs.YbulkeesqFmt
