/- The law of Undo, walked. -/
import Derived.Test.YbulkeesqUndo
namespace Go.Proofs.Ybulkeesq
open Go.RowKit Go.Joins

/-- A Builder as it is made. -/
def st0 (mv : Int) : St := { mv := mv, av := none, nv := 0, cv := 0, ao := none, sts := [], co := 0, ai := none, ni := 0, ci := 0, ad := none, nd := 0, cd := 0, ax := none, nx := 0, cx := 0, tk := 0, tr := false, m0 := .int .i64 0, m1 := .int .i64 0, m2 := .int .i64 0, m3 := .int .i64 0, m4 := .int .i64 0, m5 := .int .i64 0, m6 := .int .i64 0, m7 := .int .i64 0, m8 := .bool false, old := [] }
theorem st0_small (mv : Int) : 0 ≤ (st0 mv).tk ∧ (st0 mv).tk ≤ 10000 ∧ (st0 mv).sum ≤ 10000 ∧ (st0 mv).nx ≤ 10000000 := by
  simp [st0, St.sum]
theorem row_nil (w : World) (base e size : Nat) : Row w base e size none 0 0 := ⟨[], World.ownsRow_nil _ _ _ _, fun u hu => by cases hu⟩
theorem inv0 (w : World) (mv : Int) : Inv w.heap.size (w.alloc (.cells (st0 mv).cells 35)) (st0 mv) := by
  refine ⟨heap_new w _, row_nil _ _ _ _, World.ownsRow_nil _ _ _ _, row_nil _ _ _ _, row_nil _ _ _ _, row_nil _ _ _ _, ?_, ?_, ?_, ?_, ?_⟩
  · intro x y hx; cases hx
  · intro x y hx; cases hx
  · intro x y hx; cases hx
  · intro y hy; cases hy
  · exact List.Pairwise.nil
theorem tot_bound (t : Nat → ByteArray) (n : Nat) (h : ∀ k, k < n → (t k).size ≤ 140737488351232) : ∀ k, k ≤ n → tot t k ≤ k * 140737488351232 := by
  intro k hk
  induction k with
  | zero => exact Nat.le_refl _
  | succ k ih =>
    have h1 := ih (by omega)
    have h2 := h k (by omega)
    simp only [tot]
    rw [Nat.succ_mul]
    omega

set_option maxHeartbeats 4000000 in
set_option maxRecDepth 1000000 in
theorem undo_walk (w : World) (mx : Int) (hx0 : 0 ≤ mx) (hx1 : mx ≤ 255) (a1 a2 : Option Addr) (n1 n2 c1 c2 : Nat) (x1 y1 x2 y2 : Nat → Int) (t1 t2 : Nat → ByteArray) (hs1 : Script w w.heap.size a1 n1 x1 y1 t1) (hs2 : Script w w.heap.size a2 n2 x2 y2 t2)
    (hz1 : ∀ k, k < n1 → (t1 k).size ≤ 140737488351232) (hz2 : ∀ k, k < n2 → (t2 k).size ≤ 140737488351232) (hn1 : n1 ≤ 140737488351232) (hn2 : n2 ≤ 140737488351232) :
    Calls Yba.prog 4 #[.int .u8 mx, .slice a1 n1 c1, .slice a2 n2 c2] w fun e w' => e = .returned (.bool true) ∧ Below w.heap.size w w' := by
  have hwr : IntKind.i64.wrap ((n1 : Int) + (n2 : Int)) = (n1 : Int) + (n2 : Int) := IntWalk.i64_in _ ⟨by omega, by omega⟩
  have HS1 := hid hs1
  have HS2 := hid hs2
  have HZ1 := hid (tot_bound t1 n1 hz1)
  have HZ2 := hid (tot_bound t2 n2 hz2)
  have HY1 := hid hz1
  have HY2 := hid hz2
  clear hs1 hs2 hz1 hz2
  by_cases hsum : 4096 < n1 + n2
  · have hgt : (4096 : Int) < (n1 : Int) + (n2 : Int) := by omega
    go_enter Yba.func4, Yba.ntmps4
    go_wp2
    go_ret
    exact ⟨rfl, Below.refl _ _⟩
  have hle : (n1 : Int) + (n2 : Int) ≤ 4096 := by omega
  go_enter Yba.func4, Yba.ntmps4
  go_wp2
  go_loopw [7, 8] (fun tv i wr => ∃ k : Nat, k ≤ n1 ∧ i = .int .i64 k ∧ tv = .int .i64 (tot t1 k) ∧ w = wr) (fun _ i _ => n1 - (intOf i).toNat)
  case atStart => exact ⟨0, Nat.zero_le _, rfl, rfl, rfl⟩
  case round =>
    obtain ⟨k, hk, rfl, rfl, rfl⟩ := hrel
    by_cases hlt : k < n1
    · have hlt' : (k : Int) < (n1 : Int) := by omega
      obtain ⟨b, o, rfl, hb, hcs⟩ := HS1.out.loc (by omega)
      obtain ⟨e0, e1, e2⟩ := hcs k hlt
      have hq : IntKind.i64.wrap ((tot t1 k : Int) + ((t1 k).size : Int)) = ((tot t1 k : Int) + ((t1 k).size : Int)) := IntWalk.i64_in _ ⟨by omega, by have := HZ1.out k hk; have := HY1.out k hlt; omega⟩
      clear hcs
      go_wp2
      go_roundw
      case rel => exact ⟨k + 1, by omega, by go_num, by simp only [tot]; push_cast; rfl, by first | rfl | trivial⟩
      case measure => simp [intOf]; omega
    · obtain rfl : k = n1 := by omega
      go_wp2
      go_loopw [7, 9] (fun tv i wr => ∃ k' : Nat, k' ≤ n2 ∧ i = .int .i64 k' ∧ tv = .int .i64 ((tot t1 k : Int) + (tot t2 k' : Int)) ∧ w = wr) (fun _ i _ => n2 - (intOf i).toNat)
      case atStart => exact ⟨0, Nat.zero_le _, rfl, by simp [tot], rfl⟩
      case round =>
        obtain ⟨j, hj, rfl, rfl, rfl⟩ := hrel
        by_cases hlt2 : j < n2
        · have hlt' : (j : Int) < (n2 : Int) := by omega
          obtain ⟨b, o, rfl, hb, hcs⟩ := HS2.out.loc (by omega)
          obtain ⟨e0, e1, e2⟩ := hcs j hlt2
          have hq : IntKind.i64.wrap ((tot t1 k : Int) + (tot t2 j : Int) + ((t2 j).size : Int)) = ((tot t1 k : Int) + (tot t2 j : Int) + ((t2 j).size : Int)) := IntWalk.i64_in _ ⟨by omega, by have := HZ1.out k (Nat.le_refl _); have := HZ2.out j hj; have := HY2.out j hlt2; omega⟩
          clear hcs
          go_wp2
          go_roundw
          case rel => exact ⟨j + 1, by omega, by go_num, by simp only [tot]; push_cast; rw [Int.add_assoc], by first | rfl | trivial⟩
          case measure => simp [intOf]; omega
        · obtain rfl : j = n2 := by omega
          by_cases htot : 1048576 < tot t1 k + tot t2 j
          · have hgt : (1048576 : Int) < (tot t1 k : Int) + (tot t2 j : Int) := by omega
            go_wp2
            go_ret
            exact ⟨rfl, Below.refl _ _⟩
          have hng : (tot t1 k : Int) + (tot t2 j : Int) ≤ 1048576 := by omega
          have hm0 : 0 ≤ mx % 40 := by omega
          have hsc1 : Hid (∀ o, Script (w.alloc o) w.heap.size a1 k x1 y1 t1) := fun o => HS1.out.below ((Below.refl w.heap.size w).alloc (Nat.le_refl _) o) (Nat.le_refl _)
          have t1le : tot t1 k ≤ 1048576 := by omega
          have t2le : tot t2 j ≤ 1048576 := by omega
          have I0 := hid (inv0 w (mx % 40))
          have B0 : Hid (∀ o, Below w.heap.size w (w.alloc o)) := fun o => (Below.refl w.heap.size w).alloc (Nat.le_refl _) o
          go_wp2_with (go_at_call 11; refine (apply_any w.heap.size (st0 (mx % 40)) _ (by exact I0.out) w.heap.size (Nat.le_refl _) a1 k c1 x1 y1 t1 (by exact hsc1.out _) (by omega) (st0_small _).1 (st0_small _).2.1 (st0_small _).2.2.1 (st0_small _).2.2.2 rfl t1le).mono ?_; rintro e w1 ⟨rfl, s1, hI1, hB1, hG1, ho1⟩; have HI1 := hid hI1; have HB1 := hid ((B0.out _).trans hB1); have HG1 := hid hG1; have HO1 := hid ho1; clear hI1 hB1 hG1 ho1)
          have g1 : w1.cell? ⟨w.heap.size, 1, none⟩ = some (.slice s1.av s1.nv s1.cv) := HI1.out.cell 1
          have g2 : w1.cell? ⟨w.heap.size, 2, none⟩ = some (.slice s1.ao s1.sts.length s1.co) := HI1.out.cell 2
          have g3 : w1.cell? ⟨w.heap.size, 3, none⟩ = some (.slice none 0 0) := HI1.out.cell 3
          have g4 : w1.cell? ⟨w.heap.size, 4, none⟩ = some (.slice none 0 0) := HI1.out.cell 4
          have g5 : w1.cell? ⟨w.heap.size, 5, none⟩ = some (.slice s1.ai s1.ni s1.ci) := HI1.out.cell 5
          have g6 : w1.cell? ⟨w.heap.size, 6, none⟩ = some (.slice s1.ad s1.nd s1.cd) := HI1.out.cell 6
          have g7 : w1.cell? ⟨w.heap.size, 7, none⟩ = some (.slice s1.ax s1.nx s1.cx) := HI1.out.cell 7
          have g8 : w1.cell? ⟨w.heap.size, 8, none⟩ = some (.int .i64 s1.tk) := HI1.out.cell 8
          have g9 : w1.cell? ⟨w.heap.size, 9, none⟩ = some (.bool s1.tr) := HI1.out.cell 9
          have k1 : 0 ≤ s1.marked.tk ∧ s1.marked.tk ≤ 10000 ∧ s1.marked.sum ≤ 10000 ∧ s1.marked.nx ≤ 10000000 ∧ s1.marked.old = [] := by
            have e1 := HG1.out.t0 (st0_small _).1
            have e2 := HG1.out.tk
            have e3 := HG1.out.sum
            have e4 := HG1.out.nx
            have q : (st0 (mx % 40)).tk = 0 ∧ (st0 (mx % 40)).sum = 0 ∧ (st0 (mx % 40)).nx = 0 := by simp [st0, St.sum]
            have qs : s1.marked.sum = s1.sum := rfl
            exact ⟨e1, by show s1.tk ≤ 10000; omega, by rw [qs]; omega, by show s1.nx ≤ 10000000; omega, HO1.out⟩
          have K1 := hid k1
          have caps1 : Hid (s1.nv ≤ s1.cv ∧ s1.sts.length ≤ s1.co ∧ s1.ni ≤ s1.ci ∧ s1.nd ≤ s1.cd ∧ s1.nx ≤ s1.cx) := ⟨HI1.out.rows.v.cap, by have := owns_cap HI1.out.rows.o; simp at this; omega, HI1.out.rows.i.cap, HI1.out.rows.d.cap, HI1.out.rows.x.cap⟩
          clear k1 I0 B0 hsc1 HG1 HO1 HZ1 HZ2 HY1 HY2 HS1
          go_quiet (fail)
          go_wp2
          go_quiet (fail)
          go_wp2
          go_quiet (fail)
          go_wp2
          go_quiet (fail)
          clear g1 g2 g3 g4 g5 g6 g7 g8 g9
          go_wp2_with (first
            | (go_at_call 6; refine (mark_any w.heap.size s1 _ (by exact HI1.out.drewN _)).mono ?_; rintro e w2 ⟨rfl, hI2, hB2⟩; have HI2 := hid hI2; have HB2 := hid ((below_drewN HB1.out _).trans hB2); clear hI2 hB2)
            | (go_at_call 11; refine (apply_any w.heap.size s1.marked w2 HI2.out w.heap.size (Nat.le_refl _) a2 j c2 x2 y2 t2 (by exact HS2.out.below HB2.out (Nat.le_refl _)) (by omega) K1.out.1 K1.out.2.1 K1.out.2.2.1 K1.out.2.2.2.1 K1.out.2.2.2.2 t2le).mono ?_; rintro e w3 ⟨rfl, s3, hI3, hB3, hG3, ho3⟩; have HI3 := hid hI3; have HB3 := hid (HB2.out.trans hB3); have HG3 := hid hG3; clear hI3 hB3 hG3 ho3)
            | (go_at_call 12; refine (undo_any w.heap.size s3 w3 HI3.out s1.nv s1.sts.length s1.ni s1.nd s1.nx s1.tk s1.tr HG3.out.m0 HG3.out.m1 HG3.out.m2 HG3.out.m3 HG3.out.m4 HG3.out.m5 HG3.out.m6 HG3.out.m7 HG3.out.m8 (Nat.le_trans caps1.out.1 HG3.out.cv) (Nat.le_trans caps1.out.2.1 HG3.out.co) (Nat.le_trans caps1.out.2.2.1 HG3.out.ci) (Nat.le_trans caps1.out.2.2.2.1 HG3.out.cd) (Nat.le_trans caps1.out.2.2.2.2 HG3.out.cx)).mono ?_; rintro e w4 ⟨rfl, hb4, hB4⟩; have r1 : w4.cell? ⟨w.heap.size, 1, none⟩ = some (.slice s3.av s1.nv s3.cv) := cell_of_block hb4 1; have r2 : w4.cell? ⟨w.heap.size, 2, none⟩ = some (.slice s3.ao s1.sts.length s3.co) := cell_of_block hb4 2; have r3 : w4.cell? ⟨w.heap.size, 3, none⟩ = some (.slice none 0 0) := cell_of_block hb4 3; have r4 : w4.cell? ⟨w.heap.size, 4, none⟩ = some (.slice none 0 0) := cell_of_block hb4 4; have r5 : w4.cell? ⟨w.heap.size, 5, none⟩ = some (.slice s3.ai s1.ni s3.ci) := cell_of_block hb4 5; have r6 : w4.cell? ⟨w.heap.size, 6, none⟩ = some (.slice s3.ad s1.nd s3.cd) := cell_of_block hb4 6; have r7 : w4.cell? ⟨w.heap.size, 7, none⟩ = some (.slice s3.ax s1.nx s3.cx) := cell_of_block hb4 7; have r8 : w4.cell? ⟨w.heap.size, 8, none⟩ = some (.int .i64 s1.tk) := cell_of_block hb4 8; have r9 : w4.cell? ⟨w.heap.size, 9, none⟩ = some (.bool s1.tr) := cell_of_block hb4 9; have HB4 := hid (HB3.out.trans hB4); clear hb4 hB4)
            | (go_at_call 13; refine (values_any _ _ _ _ _ (by exact r1)).mono ?_; rintro e w5 ⟨rfl, rfl⟩)
            | (go_at_call 14; refine (truncated_any _ _ _ (by exact r9)).mono ?_; rintro e w5 ⟨rfl, rfl⟩))
          go_ret
          exact ⟨rfl, HB4.out⟩
end Go.Proofs.Ybulkeesq
