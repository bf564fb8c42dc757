/- Mark on a Builder that has just been laid. -/
import Derived.Test.YbulkeesqWalks
import Derived.BigRegion
import Derived.RegionTactic
namespace Go.Proofs.Ybulkeesq
open Go.RowKit

def builderCells (mv : Int) (a1 a2 a3 a4 a5 a6 a7 : Option Addr) (n1 c1 n2 c2 n3 c3 n4 c4 n5 c5 n6 c6 n7 c7 : Nat) (tk : Int) (tr : Bool) (o0 o1 o2 o3 o4 o5 o6 o7 : Int) (ot : Bool) : Array Value :=
  #[.int .i64 mv, .slice a1 n1 c1, .slice a2 n2 c2, .slice a3 n3 c3, .slice a4 n4 c4, .slice a5 n5 c5, .slice a6 n6 c6, .slice a7 n7 c7, .int .i64 tk, .bool tr,
    .int .i64 o0, .int .i64 o1, .int .i64 o2, .int .i64 o3, .int .i64 o4, .int .i64 o5, .int .i64 o6, .int .i64 o7, .bool ot]

set_option maxHeartbeats 4000000 in
set_option maxRecDepth 1000000 in
theorem mark_new (W : World) (mv : Int) (a1 a2 a3 a4 a5 a6 a7 : Option Addr) (n1 c1 n2 c2 n3 c3 n4 c4 n5 c5 n6 c6 n7 c7 : Nat) (tk : Int) (tr : Bool) (o0 o1 o2 o3 o4 o5 o6 o7 : Int) (ot : Bool) :
    Calls Yba.prog 6 #[.pointer (some ⟨W.heap.size, 0, none⟩)] (W.alloc (.cells (builderCells mv a1 a2 a3 a4 a5 a6 a7 n1 c1 n2 c2 n3 c3 n4 c4 n5 c5 n6 c6 n7 c7 tk tr o0 o1 o2 o3 o4 o5 o6 o7 ot) 35)) fun e w' =>
      e = .returned (.tuple #[]) ∧ ∃ m, w' = (W.alloc (.cells (builderCells mv a1 a2 a3 a4 a5 a6 a7 n1 c1 n2 c2 n3 c3 n4 c4 n5 c5 n6 c6 n7 c7 tk tr n1 n2 n3 n4 n5 n6 n7 tk tr) 35)).drewN m := by
  unfold builderCells
  go_enter Yba.func6, Yba.ntmps6
  go_wp2
  go_region
  go_wp2
  go_region
  go_wp2
  go_region
  go_wp2
  go_region
  go_wp2
  go_end0
  exact ⟨rfl, 4, rfl⟩
end Go.Proofs.Ybulkeesq
