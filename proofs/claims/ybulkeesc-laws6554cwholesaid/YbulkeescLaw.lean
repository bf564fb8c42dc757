/- The two laws' walks. -/
import Derived.Test.YbulkeescWalks
namespace Go.Proofs.Ybulkeesc
open Go.RowKit

theorem make0 (w : World) : (Instr.makeSlice 27 (.int .i64 0) (.int .i64 0)).run Yba.prog w = .ok (.slice (some ⟨w.heap.size, 0, none⟩) 0 0) (w.alloc (.cells #[] 67)) := by kernel_rfl
theorem make1 (w : World) : (Instr.makeSlice 27 (.int .i64 1) (.int .i64 1)).run Yba.prog w = .ok (.slice (some ⟨w.heap.size, 0, none⟩) 1 1) (w.alloc (.cells #[.slice none 0 0] 67)) := by kernel_rfl
theorem make2 (w : World) : (Instr.makeSlice 27 (.int .i64 2) (.int .i64 2)).run Yba.prog w = .ok (.slice (some ⟨w.heap.size, 0, none⟩) 2 2) (w.alloc (.cells #[.slice none 0 0, .slice none 0 0] 67)) := by kernel_rfl

theorem whole_small (c g i : Int) (w : World) :
    Calls Yba.prog 3 #[.bool false, .int .u8 c, .int .u32 g, .int .i64 i] w fun e w' => e = .returned (.bool true) ∧ Grown w w' := by
  have k1 := eqnil
  go_enter Yba.func3, Yba.ntmps3
  go_wp2_with (go_at_call 5; refine (spot_small w.heap.size i _ (by simp)).mono ?_; rintro e w' ⟨rfl, rfl⟩)
  go_ret
  exact ⟨rfl, by repeat (first | exact Grown.refl _ | apply Grown.drew | apply Grown.alloc)⟩

set_option maxHeartbeats 1000000 in
theorem whole_large (c g i : Int) (w : World) (c0 : 0 ≤ c) (c1 : c ≤ 255) (hi0 : -9223372036854775808 ≤ i) (hi1 : i ≤ 9223372036854775807) (hg0 : 0 ≤ g) (hg1 : g ≤ 4294967295) :
    Calls Yba.prog 3 #[.bool true, .int .u8 c, .int .u32 g, .int .i64 i] w fun e w' => e = .returned (.bool true) ∧ Grown w w' := by
  have k1 := eqnil
  have m0 := make0
  have m1 := make1
  have m2 := make2
  obtain ⟨q0, q1⟩ := tdiv10 i hi0 hi1
  obtain ⟨s0, s1, s2, s3⟩ := spot_facts g (i.tdiv 10 + 1) hg0 hg1
  have HS := show Hid (∃ S, S = spotV g (i.tdiv 10 + 1)) from ⟨_, rfl⟩
  obtain ⟨S, hS⟩ := HS.out
  rw [← hS] at s0 s1 s2 s3
  have t1 : (S % 4294967296 != IntKind.u64.wrap (i.tdiv 10 + 1) % 4294967296) = false := by rw [s2]; simp
  have hL := u64_range (i.tdiv 10 + 1)
  have t2 : (S / 4294967296 == bits .or .u32 g (IntKind.u64.wrap (i.tdiv 10 + 1) / 4294967296 % 4294967296)) = true := by
    rw [show IntKind.u64.wrap (i.tdiv 10 + 1) / 4294967296 % 4294967296 = IntKind.u64.wrap (i.tdiv 10 + 1) / 4294967296 from by omega, s3]; simp
  clear hL
  have H5 : Hid (S = spotV g (i.tdiv 10 + 1)) := hS
  clear s2 s3 hS HS
  rcases (show c % 3 = 0 ∨ c % 3 = 1 ∨ c % 3 = 2 from by omega) with h | h | h
  · go_enter Yba.func3, Yba.ntmps3
    go_wp2_with fail
    refine (spot_large w.heap.size ⟨w.heap.size + 1, 0, none⟩ 0 i g _ ?_ ?_ hi0 hi1 hg0 hg1).mono ?_
    · simp
    · simp
    · rintro e w' ⟨rfl, rfl⟩
      rw [← H5.out]
      go_wp2
      go_ret
      exact ⟨rfl, by repeat (first | exact Grown.refl _ | apply Grown.drew | apply Grown.alloc | (apply Grown.setCell; simp))⟩
  · go_enter Yba.func3, Yba.ntmps3
    go_wp2_with fail
    refine (spot_large w.heap.size ⟨w.heap.size + 1, 0, none⟩ 1 i g _ ?_ ?_ hi0 hi1 hg0 hg1).mono ?_
    · simp
    · simp
    · rintro e w' ⟨rfl, rfl⟩
      rw [← H5.out]
      go_wp2
      go_ret
      exact ⟨rfl, by repeat (first | exact Grown.refl _ | apply Grown.drew | apply Grown.alloc | (apply Grown.setCell; simp))⟩
  · go_enter Yba.func3, Yba.ntmps3
    go_wp2_with fail
    refine (spot_large w.heap.size ⟨w.heap.size + 1, 0, none⟩ 2 i g _ ?_ ?_ hi0 hi1 hg0 hg1).mono ?_
    · simp
    · simp
    · rintro e w' ⟨rfl, rfl⟩
      rw [← H5.out]
      go_wp2
      go_ret
      exact ⟨rfl, by repeat (first | exact Grown.refl _ | apply Grown.drew | apply Grown.alloc | (apply Grown.setCell; simp))⟩

theorem trip_small (g i home : Int) (w : World) (h0 : 0 ≤ i) (h1 : i ≤ 42949672940) :
    Calls Yba.prog 4 #[.bool false, .int .u32 g, .int .i64 i, .int .i64 home] w fun e w' => e = .returned (.bool true) ∧ Grown w w' := by
  go_enter Yba.func4, Yba.ntmps4
  go_wp2_with (first | (go_at_call 5; refine (spot_small w.heap.size i _ (by simp)).mono ?_; rintro e w' ⟨rfl, rfl⟩) | (go_at_call 6; refine (start_zero _ _ _).mono ?_; rintro e w' ⟨rfl, rfl⟩))
  go_ret
  exact ⟨by simp, by repeat (first | exact Grown.refl _ | apply Grown.drew | apply Grown.alloc)⟩

theorem or_zero_u32 (g : Int) (hg0 : 0 ≤ g) (hg1 : g ≤ 4294967295) : bits .or .u32 g 0 = g := by
  obtain ⟨a, rfl⟩ : ∃ a : Nat, g = (a : Int) := ⟨g.toNat, by omega⟩
  have := bits_or_u32_nat a 0 (by omega) (by omega)
  simpa using this

set_option maxHeartbeats 1000000 in
theorem trip_large (g i home : Int) (w : World) (h0 : 0 ≤ i) (h1 : i ≤ 42949672940) (hg0 : 0 ≤ g) (hg1 : g ≤ 4294967295) :
    Calls Yba.prog 4 #[.bool true, .int .u32 g, .int .i64 i, .int .i64 home] w fun e w' => e = .returned (.bool true) ∧ Grown w w' := by
  have m1 := make1
  obtain ⟨s0, s1, s2, s3⟩ := spot_facts g (i.tdiv 10 + 1) hg0 hg1
  have HS := show Hid (∃ S, S = spotV g (i.tdiv 10 + 1)) from ⟨_, rfl⟩
  obtain ⟨S, hS⟩ := HS.out
  rw [← hS] at s0 s1 s2 s3
  have e1 : i.tdiv 10 = i / 10 := Int.tdiv_eq_ediv_of_nonneg h0
  have e2 : IntKind.u64.wrap (i.tdiv 10 + 1) = i / 10 + 1 := by rw [IntKind.wrap_u64, e1]; omega
  rw [e2] at s2 s3
  rw [show (i / 10 + 1) / 4294967296 = 0 from by omega, or_zero_u32 g hg0 hg1] at s3
  have t1 : (S / 4294967296 != g) = false := by rw [s3]; simp
  have t2 : (S % 4294967296 - 1 == i / 10) = true := by rw [s2]; simp; omega
  have p0 : 0 < S := by omega
  have H5 : Hid (spotV g (i.tdiv 10 + 1) = S) := hS.symm
  clear s2 s3 hS HS e1 e2
  go_enter Yba.func4, Yba.ntmps4
  go_wp2_with fail
  refine (spot_large w.heap.size ⟨w.heap.size + 1, 0, none⟩ 1 i g _ ?_ ?_ (by omega) (by omega) hg0 hg1).mono ?_
  · simp
  · simp
  · rintro e w' ⟨rfl, rfl⟩
    rw [H5.out]
    go_wp2_with fail
    refine (start_held w.heap.size S home g _ ?_ p0 s1 t1).mono ?_
    · simp
    · rintro e w' ⟨rfl, rfl⟩
      go_wp2
      go_ret
      exact ⟨rfl, by repeat (first | exact Grown.refl _ | apply Grown.drew | apply Grown.alloc | (apply Grown.setCell; simp))⟩

theorem trip_out (l : Bool) (g i home : Int) (w : World) (h : i < 0 ∨ 42949672940 < i) :
    Calls Yba.prog 4 #[.bool l, .int .u32 g, .int .i64 i, .int .i64 home] w fun e w' => e = .returned (.bool true) ∧ Grown w w' := by
  rcases h with h | h
  · go_enter Yba.func4, Yba.ntmps4
    go_wp2
    all_goals
      go_ret
      exact ⟨rfl, Grown.refl _⟩
  · have h' : ¬ i < 0 := by omega
    go_enter Yba.func4, Yba.ntmps4
    go_wp2
    all_goals
      go_ret
      exact ⟨rfl, Grown.refl _⟩
end Go.Proofs.Ybulkeesc
