/- slices.Equal of ids, bytes.Equal: at equal contents (functions 9, 10). -/
import Derived.Test.YbulkeeroTell
import Derived.Laws.BytesArg
namespace Go.Proofs.Ybulkeero
open Go.RowKit Go.Joins

/-- Bytes that lie somewhere, or none. -/
def Bytes (w : World) (a : Option Addr) (n : Nat) (l : List Int) : Prop := l.length = n ∧ (n = 0 ∨ ∃ b o, a = some ⟨b, o, none⟩ ∧ w.rangeAt b o (by8 l))
theorem conv_bytes {w : World} {a : Option Addr} {n : Nat} {l : List Int} (h : Bytes w a n l) (c : Nat) : (convert 25 9 (.slice a n c)).run Yba.prog w = .ok (.string (strOfNums l)) w := by
  obtain ⟨hl, rfl | ⟨b, o, rfl, hr⟩⟩ := h
  · obtain rfl : l = [] := List.eq_nil_of_length_eq_zero hl
    rw [run_convert_bytes_string w 25 9 5 a 0 c Yba.underlying25 Yba.underlying5 Yba.underlying9]
    cases a <;> simp [Conv.bytesToString, loadCells] <;> rfl
  · refine run_convert_bytes_arg w 25 5 Yba.underlying25 Yba.underlying5 b o n c l hl (fun i hi => hr i _ ?_) 9 Yba.underlying9
    unfold by8
    rw [List.getElem?_map, List.getElem?_eq_getElem (by omega), List.getD_eq_getElem?_getD, List.getElem?_eq_getElem (by omega)]
    rfl

theorem bytesEqual_any (w : World) (a1 a2 : Option Addr) (n c1 c2 : Nat) (l : List Int) (h1 : Bytes w a1 n l) (h2 : Bytes w a2 n l) :
    Calls Yba.prog 10 #[.slice a1 n c1, .slice a2 n c2] w fun e w' => e = .returned (.bool true) ∧ w' = w := by
  have k1 := conv_bytes h1 c1
  have k2 := conv_bytes h2 c2
  go_enter Yba.func10, Yba.ntmps10
  go_wp2
  go_ret
  exact ⟨by simp, rfl⟩

theorem own_range {w : World} {base size n c : Nat} {e : TypeId} {a : Option Addr} {xs : List Value} (h : w.ownsRow base e size (.slice a n c) n xs) (hn : 0 < n) : ∃ g, a = some ⟨g, 0, none⟩ ∧ w.rangeAt g 0 xs := by
  have hc := fun g hg => h.cells (g := g) hg
  obtain ⟨h1, ⟨_, rfl⟩ | ⟨g, cap, cur, hv, _⟩⟩ := h
  · omega
  · cases hv
    exact ⟨g, rfl, fun j v hj => by have := hc g rfl j v hj; rwa [Addr.add_mid] at this⟩

set_option maxHeartbeats 1000000 in
set_option maxRecDepth 20000 in
theorem slicesEqual_any (w : World) (b1 b2 : Nat) (a1 a2 : Option Addr) (n c1 c2 : Nat) (flat : List Int) (hl : flat.length = n * 20) (hn : n ≤ 1000) (h1 : w.ownsRow b1 27 20 (.slice a1 n c1) n (by8 flat)) (h2 : w.ownsRow b2 27 20 (.slice a2 n c2) n (by8 flat)) :
    Calls Yba.prog 9 #[.slice a1 n c1, .slice a2 n c2] w fun e w' => e = .returned (.bool true) ∧ w.grownBy w' none := by
  have HA := hid h1
  have HB := hid h2
  clear h1 h2
  go_enter Yba.func9, Yba.ntmps9
  go_wp2
  go_loopw [13] (fun i wr => ∃ k : Nat, k ≤ n ∧ i = .int .i64 k ∧ Hid (w.grownBy wr none)) (fun i _ => n - (intOf i).toNat)
  case atStart => exact ⟨0, Nat.zero_le _, by rfl, grown_self _ _⟩
  case round =>
    obtain ⟨k, hk, rfl, HG⟩ := hrel
    by_cases hkn : k < n
    case neg =>
      obtain rfl : k = n := by omega
      go_wp2
      go_ret
      exact ⟨rfl, HG.out⟩
    case pos =>
      have j0 : (0 : Int) ≤ (k : Int) := by omega
      have j1 : (k : Int) < (n : Int) := by omega
      have HW := hid (wrap_succ k (by omega))
      obtain ⟨g1, rfl, hr1⟩ := own_range HA.out (by omega)
      obtain ⟨g2, rfl, hr2⟩ := own_range HB.out (by omega)
      have hidl : (idAt flat k).length = 20 := idAt_length hl hkn
      have hi1 := range_grown (range_idAt (j := k) hr1) HG.out (by simp)
      have hi2 := range_grown (range_idAt (j := k) hr2) HG.out (by simp)
      clear hr1 hr2
      go_upto_region 6 with fail
      refine beginE [] (fun w' : World => w'.rangeAt g1 (k * 20) (by8 (idAt flat k)) ∧ w'.rangeAt g2 (k * 20) (by8 (idAt flat k))) (by kernel_rfl) ⟨(World.rangeAt_drew _ _ _ _).2 hi1, (World.rangeAt_drew _ _ _ _).2 hi2⟩ (fun hHeld => ?_)
      refine takeE 0 { dst := some 16, op := Op.move (Operand.tmp 0), type := 28, pos := "slices.go:25", after := #[], guard := none } (.slice (some ⟨g1, 0, none⟩) n c1) rfl (by kernel_rfl) (by kernel_rfl) (by kernel_rfl) (by kernel_rfl) (fun _ _ _ h => h) (Or.inl ⟨by rfl, by intro w hSw; clear hSw; go_simp⟩) hHeld ?_
      simp only [Act.put, List.setIfInBounds_toArray, List.set_cons_zero, List.set_cons_succ]
      refine takeE 1 { dst := some 17, op := Op.move (Operand.tmp 5), type := 3, pos := "slices.go:25", after := #[], guard := none } (.int .i64 (k : Int)) rfl (by kernel_rfl) (by kernel_rfl) (by kernel_rfl) (by kernel_rfl) (fun _ _ _ h => h) (Or.inl ⟨by rfl, by intro w hSw; clear hSw; go_simp⟩) hHeld ?_
      simp only [Act.put, List.setIfInBounds_toArray, List.set_cons_zero, List.set_cons_succ]
      refine takeE 2 { dst := some 18, op := Op.indexAddr 28 (Operand.tmp 16) (Operand.tmp 17), type := 0, pos := "slices.go:25", after := #[{ on := 0, ground := Ground.data }, { on := 1, ground := Ground.data }], guard := none } (.pointer (some ⟨g1, k * 20, none⟩)) rfl (by kernel_rfl) (by kernel_rfl) (by kernel_rfl) (by kernel_rfl) (fun _ _ _ h => h) (Or.inl ⟨by rfl, by intro w hSw; clear hSw; go_simp⟩) hHeld ?_
      simp only [Act.put, List.setIfInBounds_toArray, List.set_cons_zero, List.set_cons_succ]
      refine takeE 3 { dst := some 19, op := Op.load 27 (Operand.tmp 18), type := 27, pos := "slices.go:25", after := #[{ on := 2, ground := Ground.data }], guard := none } (.agg (by8 (idAt flat k)).toArray) rfl (by kernel_rfl) (by kernel_rfl) (by kernel_rfl) (by kernel_rfl) (fun _ _ _ h => h) (Or.inl ⟨by rfl, fun w hSw => load27 rfl rfl hidl hSw.1⟩) hHeld ?_
      simp only [Act.put, List.setIfInBounds_toArray, List.set_cons_zero, List.set_cons_succ]
      refine takeE 4 { dst := some 20, op := Op.move (Operand.tmp 1), type := 28, pos := "slices.go:25", after := #[], guard := none } (.slice (some ⟨g2, 0, none⟩) n c2) rfl (by kernel_rfl) (by kernel_rfl) (by kernel_rfl) (by kernel_rfl) (fun _ _ _ h => h) (Or.inl ⟨by rfl, by intro w hSw; clear hSw; go_simp⟩) hHeld ?_
      simp only [Act.put, List.setIfInBounds_toArray, List.set_cons_zero, List.set_cons_succ]
      refine takeE 5 { dst := some 21, op := Op.move (Operand.tmp 5), type := 3, pos := "slices.go:25", after := #[], guard := none } (.int .i64 (k : Int)) rfl (by kernel_rfl) (by kernel_rfl) (by kernel_rfl) (by kernel_rfl) (fun _ _ _ h => h) (Or.inl ⟨by rfl, by intro w hSw; clear hSw; go_simp⟩) hHeld ?_
      simp only [Act.put, List.setIfInBounds_toArray, List.set_cons_zero, List.set_cons_succ]
      refine takeE 6 { dst := some 22, op := Op.indexAddr 28 (Operand.tmp 20) (Operand.tmp 21), type := 0, pos := "slices.go:25", after := #[{ on := 4, ground := Ground.data }, { on := 5, ground := Ground.data }], guard := none } (.pointer (some ⟨g2, k * 20, none⟩)) rfl (by kernel_rfl) (by kernel_rfl) (by kernel_rfl) (by kernel_rfl) (fun _ _ _ h => h) (Or.inl ⟨by rfl, by intro w hSw; clear hSw; go_simp⟩) hHeld ?_
      simp only [Act.put, List.setIfInBounds_toArray, List.set_cons_zero, List.set_cons_succ]
      refine takeE 7 { dst := some 23, op := Op.load 27 (Operand.tmp 22), type := 27, pos := "slices.go:25", after := #[{ on := 6, ground := Ground.data }], guard := none } (.agg (by8 (idAt flat k)).toArray) rfl (by kernel_rfl) (by kernel_rfl) (by kernel_rfl) (by kernel_rfl) (fun _ _ _ h => h) (Or.inl ⟨by rfl, fun w hSw => load27 rfl rfl hidl hSw.2⟩) hHeld ?_
      simp only [Act.put, List.setIfInBounds_toArray, List.set_cons_zero, List.set_cons_succ]
      refine takeE 8 { dst := some 24, op := Op.binOp BinOp.neq 27 (Operand.tmp 19) (Operand.tmp 23) 27, type := 4, pos := "slices.go:25", after := #[{ on := 3, ground := Ground.data }, { on := 7, ground := Ground.data }], guard := none } (.bool (!decide (idAt flat k = idAt flat k))) rfl (by kernel_rfl) (by kernel_rfl) (by kernel_rfl) (by kernel_rfl) (fun _ _ _ h => h) (Or.inl ⟨by rfl, fun w _ => exec_neq27 rfl rfl rfl hidl hidl⟩) hHeld ?_
      simp only [Act.put, List.setIfInBounds_toArray, List.set_cons_zero, List.set_cons_succ]
      refine doneE (by kernel_rfl) ?_ _
      have HG' := hid (grown_trans HG.out (grown_drew _))
      clear hHeld hi1 hi2 HG
      simp only [decide_true, Bool.not_true]
      have hwk := HW.out
      go_wp2
      clear hwk
      go_roundw
      case rel => exact ⟨k + 1, by omega, by go_num, HG'⟩
      case measure => simp [intOf]; omega

end Go.Proofs.Ybulkeero
