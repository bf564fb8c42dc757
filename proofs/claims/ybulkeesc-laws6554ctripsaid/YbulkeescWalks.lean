/- The contracts of spotAt and startOf. -/
import Derived.Test.YbulkeescProg
import Derived.Test.YbulkeescParts
import Derived.WalkSmall
import Derived.WalkSpells
namespace Go.Proofs.Ybulkeesc
open Go.RowKit

theorem eqnil (w : World) (a : Option Addr) (n c n' c' : Nat) : (binOp .eql 27 (.slice a n c) (.slice none n' c')).run Yba.prog w = .ok (.bool a.isNone) w := Lib.run_eql_slice_nil w _ _ a n c n' c' Yba.underlying27

theorem spot_small (b : Nat) (i : Int) (w : World) (h : w.cell? ⟨b, 3, none⟩ = some (.slice none 0 0)) :
    Calls Yba.prog 5 #[.pointer (some ⟨b, 0, none⟩), .int .i64 i] w fun e w' => e = .returned (.int .u64 0) ∧ w' = w := by
  have k1 := eqnil
  go_enter Yba.func5, Yba.ntmps5
  go_wp2
  go_ret
  exact ⟨rfl, rfl⟩

theorem spot_large (b : Nat) (x : Addr) (n : Nat) (i g : Int) (w : World) (h : w.cell? ⟨b, 3, none⟩ = some (.slice (some x) n n)) (h2 : w.cell? ⟨b, 11, none⟩ = some (.int .u32 g))
    (hi0 : -9223372036854775808 ≤ i) (hi1 : i ≤ 9223372036854775807) (hg0 : 0 ≤ g) (hg1 : g ≤ 4294967295) :
    Calls Yba.prog 5 #[.pointer (some ⟨b, 0, none⟩), .int .i64 i] w fun e w' => e = .returned (.int .u64 (spotV g (i.tdiv 10 + 1))) ∧ w' = w := by
  have k1 := eqnil
  obtain ⟨q0, q1⟩ := tdiv10 i hi0 hi1
  unfold spotV
  go_enter Yba.func5, Yba.ntmps5
  go_wp2
  go_ret
  exact ⟨rfl, rfl⟩

theorem start_zero (b : Nat) (home : Int) (w : World) :
    Calls Yba.prog 6 #[.pointer (some ⟨b, 0, none⟩), .int .u64 0, .int .i64 home] w fun e w' => e = .returned (.int .i64 home) ∧ w' = w := by
  go_enter Yba.func6, Yba.ntmps6
  go_wp2
  go_ret
  exact ⟨rfl, rfl⟩

theorem start_held (b : Nat) (s home g : Int) (w : World) (h2 : w.cell? ⟨b, 11, none⟩ = some (.int .u32 g)) (hs0 : 0 < s) (hs1 : s ≤ 18446744073709551615) (hg : (s / 4294967296 != g) = false) :
    Calls Yba.prog 6 #[.pointer (some ⟨b, 0, none⟩), .int .u64 s, .int .i64 home] w fun e w' => e = .returned (.int .i64 (s % 4294967296 - 1)) ∧ w' = w := by
  have e : s % 4294967296 = IntKind.u32.wrap s := by rw [IntKind.wrap_u32]
  have b0 : 0 ≤ s % 4294967296 := by omega
  have b1 : s % 4294967296 < 4294967296 := by omega
  rw [e] at b0 b1 ⊢
  clear e
  have hz : (s == 0) = false := by simp; omega
  go_enter Yba.func6, Yba.ntmps6
  go_wp2
  go_ret
  exact ⟨rfl, rfl⟩
end Go.Proofs.Ybulkeesc
