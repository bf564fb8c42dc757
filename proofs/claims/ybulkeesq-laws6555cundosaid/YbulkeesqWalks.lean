/- The small callees of the law on Mark. -/
import Derived.Test.YbulkeesqProg
import Derived.WalkKit
import Derived.WalkSmall
import Derived.WalkSpells
import Derived.Deep.QuietTactic
import Derived.BigQuiet
import Derived.Lib.Builder
namespace Go.Proofs.Ybulkeesq
open Go.RowKit

theorem cn_any (x : Int) (w : World) (h0 : 0 ≤ x) (h1 : x ≤ 65535) :
    Calls Yba.prog 5 #[.int .u16 x] w fun e w' => e = .returned (.int .i64 (x % 300)) ∧ w' = w := by
  go_enter Yba.func5, Yba.ntmps5
  go_wp2
  go_ret
  exact ⟨rfl, rfl⟩

theorem nil27 (w : World) (a : Option Addr) (n c n' c' : Nat) : (binOp .eql 27 (.slice a n c) (.slice none n' c')).run Yba.prog w = .ok (.bool a.isNone) w := Lib.run_eql_slice_nil w _ _ a n c n' c' Yba.underlying27
theorem nil28 (w : World) (a : Option Addr) (n c n' c' : Nat) : (binOp .eql 28 (.slice a n c) (.slice none n' c')).run Yba.prog w = .ok (.bool a.isNone) w := Lib.run_eql_slice_nil w _ _ a n c n' c' Yba.underlying28
theorem nil29 (w : World) (a : Option Addr) (n c n' c' : Nat) : (binOp .eql 29 (.slice a n c) (.slice none n' c')).run Yba.prog w = .ok (.bool a.isNone) w := Lib.run_eql_slice_nil w _ _ a n c n' c' Yba.underlying29
theorem nil30 (w : World) (a : Option Addr) (n c n' c' : Nat) : (binOp .eql 30 (.slice a n c) (.slice none n' c')).run Yba.prog w = .ok (.bool a.isNone) w := Lib.run_eql_slice_nil w _ _ a n c n' c' Yba.underlying30

/-- An element type's row of the table: its zero value left without a name. -/
theorem info_some {P : Program} {e : TypeId} {size bytes : Nat} (h : (P.info? e).map (fun i => (i.zero.map (·.cells.size), i.size, i.bytes)) = some (some size, size, bytes)) :
    ∃ i z, P.info? e = some i ∧ i.zero = some z ∧ i.size = size ∧ i.bytes = bytes ∧ z.cells.size = size := by
  obtain ⟨i, hi, he⟩ := Option.map_eq_some_iff.1 h
  simp only [Prod.mk.injEq] at he
  obtain ⟨h1, h2, h3⟩ := he
  obtain ⟨z, hz, hs⟩ := Option.map_eq_some_iff.1 h1
  exact ⟨i, z, hi, hz, h2, h3, hs⟩
theorem Yba.info46 : (Yba.prog.info? 46).map (fun i => (i.zero.map (·.cells.size), i.size, i.bytes)) = some (some 12, 12, 112) := by kernel_rfl
theorem Yba.info49 : (Yba.prog.info? 49).map (fun i => (i.zero.map (·.cells.size), i.size, i.bytes)) = some (some 5, 5, 40) := by kernel_rfl
theorem Yba.info52 : (Yba.prog.info? 52).map (fun i => (i.zero.map (·.cells.size), i.size, i.bytes)) = some (some 13, 13, 136) := by kernel_rfl
theorem Yba.info5 : (Yba.prog.info? 5).map (fun i => (i.zero.map (·.cells.size), i.size, i.bytes)) = some (some 1, 1, 1) := by kernel_rfl

theorem ptr63 (w : World) (a : Addr) : (binOp .neq 63 (.pointer (some a)) (.pointer (some a))).run Yba.prog w = .ok (.bool false) w := by
  obtain ⟨i, z, hi, _⟩ := info_some Yba.info46; exact Lib.run_neq_ptr_same w a Yba.underlying63 hi
theorem ptr64 (w : World) (a : Addr) : (binOp .neq 64 (.pointer (some a)) (.pointer (some a))).run Yba.prog w = .ok (.bool false) w := by
  obtain ⟨i, z, hi, _⟩ := info_some Yba.info49; exact Lib.run_neq_ptr_same w a Yba.underlying64 hi
theorem ptr65 (w : World) (a : Addr) : (binOp .neq 65 (.pointer (some a)) (.pointer (some a))).run Yba.prog w = .ok (.bool false) w := by
  obtain ⟨i, z, hi, _⟩ := info_some Yba.info52; exact Lib.run_neq_ptr_same w a Yba.underlying65 hi
theorem ptr66 (w : World) (a : Addr) : (binOp .neq 66 (.pointer (some a)) (.pointer (some a))).run Yba.prog w = .ok (.bool false) w := by
  obtain ⟨i, z, hi, _⟩ := info_some Yba.info5; exact Lib.run_neq_ptr_same w a Yba.underlying66 hi

theorem same7 (g n : Nat) (w : World) :
    Calls Yba.prog 7 #[.slice (some ⟨g, 0, none⟩) n n, .slice (some ⟨g, 0, none⟩) n n] w fun e w' => e = .returned (.bool true) ∧ ∃ m, w' = w.drewN m := by
  have k := nil27
  have kp := ptr63
  by_cases hn : 0 < n
  · have hd : decide (0 < n) = true := by simpa using hn
    have hz : (0 : Int) < (n : Int) := by omega
    go_enter Yba.func7, Yba.ntmps7
    go_wp2
    go_quiet (fail)
    go_wp2
    go_ret
    exact ⟨rfl, _, rfl⟩
  · have hd : decide (0 < n) = false := by simpa using hn
    go_enter Yba.func7, Yba.ntmps7
    go_wp2
    go_quiet (fail)
    go_wp2
    go_ret
    exact ⟨rfl, _, rfl⟩

theorem same8 (g n : Nat) (w : World) :
    Calls Yba.prog 8 #[.slice (some ⟨g, 0, none⟩) n n, .slice (some ⟨g, 0, none⟩) n n] w fun e w' => e = .returned (.bool true) ∧ ∃ m, w' = w.drewN m := by
  have k := nil28
  have kp := ptr64
  by_cases hn : 0 < n
  · have hd : decide (0 < n) = true := by simpa using hn
    have hz : (0 : Int) < (n : Int) := by omega
    go_enter Yba.func8, Yba.ntmps8
    go_wp2
    go_quiet (fail)
    go_wp2
    go_ret
    exact ⟨rfl, _, rfl⟩
  · have hd : decide (0 < n) = false := by simpa using hn
    go_enter Yba.func8, Yba.ntmps8
    go_wp2
    go_quiet (fail)
    go_wp2
    go_ret
    exact ⟨rfl, _, rfl⟩

theorem same9 (g n : Nat) (w : World) :
    Calls Yba.prog 9 #[.slice (some ⟨g, 0, none⟩) n n, .slice (some ⟨g, 0, none⟩) n n] w fun e w' => e = .returned (.bool true) ∧ ∃ m, w' = w.drewN m := by
  have k := nil29
  have kp := ptr65
  by_cases hn : 0 < n
  · have hd : decide (0 < n) = true := by simpa using hn
    have hz : (0 : Int) < (n : Int) := by omega
    go_enter Yba.func9, Yba.ntmps9
    go_wp2
    go_quiet (fail)
    go_wp2
    go_ret
    exact ⟨rfl, _, rfl⟩
  · have hd : decide (0 < n) = false := by simpa using hn
    go_enter Yba.func9, Yba.ntmps9
    go_wp2
    go_quiet (fail)
    go_wp2
    go_ret
    exact ⟨rfl, _, rfl⟩

theorem same10 (g n : Nat) (w : World) :
    Calls Yba.prog 10 #[.slice (some ⟨g, 0, none⟩) n n, .slice (some ⟨g, 0, none⟩) n n] w fun e w' => e = .returned (.bool true) ∧ ∃ m, w' = w.drewN m := by
  have k := nil30
  have kp := ptr66
  by_cases hn : 0 < n
  · have hd : decide (0 < n) = true := by simpa using hn
    have hz : (0 : Int) < (n : Int) := by omega
    go_enter Yba.func10, Yba.ntmps10
    go_wp2
    go_quiet (fail)
    go_wp2
    go_ret
    exact ⟨rfl, _, rfl⟩
  · have hd : decide (0 < n) = false := by simpa using hn
    go_enter Yba.func10, Yba.ntmps10
    go_wp2
    go_quiet (fail)
    go_wp2
    go_ret
    exact ⟨rfl, _, rfl⟩

end Go.Proofs.Ybulkeesq
