/- The contracts of the Writer's small methods. -/
import Derived.Test.YbulkeesqFmtParts
import Derived.Deep.QuietTactic
import Derived.BigQuiet
import Derived.BigRegion
import Derived.RegionTactic
namespace Go.Proofs.YbulkeesqFmt
open Go.RowKit Go.Joins

theorem new_any (s : ByteArray) (w : World) :
    Calls Ybaf.prog 4 #[.string s] w fun e w' => e = .returned (.iface 38 (.pointer (some ⟨w.heap.size, 0, none⟩))) ∧ w' = w.alloc (.cells #[.string s] 40) := by
  go_enter Ybaf.func4, Ybaf.ntmps4
  go_wp2
  go_ret
  exact ⟨rfl, rfl⟩

theorem fail_nil (bw : Nat) (b o : Value) (t : TypeId) (v : Value) (w : World) (h : Wr w bw b o .nilIface) :
    Calls Ybaf.prog 8 #[.pointer (some ⟨bw, 0, none⟩), .iface t v] w fun e w' => e = .returned (.tuple #[]) ∧ w' = w.setCell ⟨bw, 2, none⟩ (.iface t v) := by
  have h2 := h.c2
  have hf := h.fr 2
  clear h
  go_enter Ybaf.func8, Ybaf.ntmps8
  go_wp2
  go_end0
  exact ⟨rfl, rfl⟩
theorem fail_had (bw : Nat) (b o : Value) (t u : TypeId) (v x : Value) (w : World) (h : Wr w bw b o (.iface u x)) :
    Calls Ybaf.prog 8 #[.pointer (some ⟨bw, 0, none⟩), .iface t v] w fun e w' => e = .returned (.tuple #[]) ∧ w' = w := by
  have h2 := h.c2
  clear h
  go_enter Ybaf.func8, Ybaf.ntmps8
  go_wp2
  go_end0
  exact ⟨rfl, rfl⟩

theorem item_none (bw : Nat) (b e : Value) (ao : Option Addr) (w : World) (h : Wr w bw b (.slice ao 0 0) e) :
    Calls Ybaf.prog 6 #[.pointer (some ⟨bw, 0, none⟩)] w fun e w' => e = .returned (.tuple #[]) ∧ ∃ m, w' = w.drewN m := by
  have h1 := h.c1
  clear h
  go_enter Ybaf.func6, Ybaf.ntmps6
  go_wp2
  go_quiet (fail)
  go_wp2
  go_end0
  exact ⟨rfl, _, rfl⟩

theorem item_keyed (bw g k : Nat) (b e : Value) (w : World) (hk : k ≤ 1048576) (h : Wr w bw b (.slice (some ⟨g, 0, none⟩) (k + 1) (k + 1)) e) (hc : w.cell? ⟨g, k * 3, none⟩ = some (.bool true)) :
    Calls Ybaf.prog 6 #[.pointer (some ⟨bw, 0, none⟩)] w fun e w' => e = .returned (.tuple #[]) ∧ ∃ m, w' = w.drewN m := by
  have h1 := h.c1
  have hp : (0 : Int) < (k : Int) + 1 := by omega
  have hw : IntKind.i64.wrap (k : Int) = (k : Int) := IntWalk.i64_in _ ⟨by omega, by omega⟩
  have hlt : (k : Int) < (k : Int) + 1 := by omega
  clear h
  go_enter Ybaf.func6, Ybaf.ntmps6
  go_wp2
  go_quiet (fail)
  go_wp2
  go_end0
  exact ⟨rfl, _, rfl⟩

theorem item_bump (bw g k : Nat) (b e : Value) (c : Int) (w : World) (hk : k ≤ 1048576) (h : Wr w bw b (.slice (some ⟨g, 0, none⟩) (k + 1) (k + 1)) e) (hc : w.cell? ⟨g, k * 3, none⟩ = some (.bool false))
    (hc2 : w.cell? ⟨g, k * 3 + 2, none⟩ = some (.int .u64 c)) (hf : w.frozen? ⟨g, k * 3 + 2, none⟩ = false) :
    Calls Ybaf.prog 6 #[.pointer (some ⟨bw, 0, none⟩)] w fun e w' => e = .returned (.tuple #[]) ∧ ∃ m, w' = (w.setCell ⟨g, k * 3 + 2, none⟩ (.int .u64 (IntKind.u64.wrap (c + 1)))).drewN m := by
  have h1 := h.c1
  have hp : (0 : Int) < (k : Int) + 1 := by omega
  have hw : IntKind.i64.wrap (k : Int) = (k : Int) := IntWalk.i64_in _ ⟨by omega, by omega⟩
  have hlt : (k : Int) < (k : Int) + 1 := by omega
  clear h
  go_enter Ybaf.func6, Ybaf.ntmps6
  go_wp2
  go_quiet (fail)
  go_wp2
  go_region
  all_goals go_wp2
  all_goals go_end0
  trace_state
  exact ⟨rfl, _, rfl⟩
end Go.Proofs.YbulkeesqFmt
