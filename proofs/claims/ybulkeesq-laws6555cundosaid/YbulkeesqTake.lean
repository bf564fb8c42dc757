/- take: a value is counted, or left out. -/
import Derived.Test.YbulkeesqInv
namespace Go.Proofs.Ybulkeesq
open Go.RowKit Go.Joins

theorem hid {p : Prop} (h : p) : Hid p := h

/-- Only the Builder's own block has been written, and nothing made. -/
structure OnlyBB (bb : Nat) (w w' : World) : Prop where
  below : Below bb w w'
  size : w'.heap.size = w.heap.size
  block : ∀ k, k ≠ bb → w'.heap[k]? = w.heap[k]?
theorem onlyBB_set (bb i : Nat) (w : World) (v : Value) (m : Nat) : OnlyBB bb w ((w.setCell ⟨bb, i, none⟩ v).drewN m) :=
  ⟨below_drewN ((Below.refl bb w).setCell (p := ⟨bb, i, none⟩) (Nat.le_refl _) v) m, by show (w.setCell _ v).heap.size = _; simp [World.setCell], fun k hk => Below.heap_setCell _ _ _ _ hk⟩

theorem take_any (bb : Nat) (s : St) (w : World) (h : Inv bb w s) (hk0 : 0 ≤ s.tk) (hk1 : s.tk ≤ 100000) :
    Calls Yba.prog 20 #[.pointer (some ⟨bb, 0, none⟩)] w fun e w' => OnlyBB bb w w' ∧ ((e = .returned (.bool false) ∧ Inv bb w' { s with tr := true }) ∨ (e = .returned (.bool true) ∧ Inv bb w' { s with tk := s.tk + 1 })) := by
  have c0 : w.cell? ⟨bb, 0, none⟩ = some (.int .i64 s.mv) := h.cell 0
  have c8 : w.cell? ⟨bb, 8, none⟩ = some (.int .i64 s.tk) := h.cell 8
  have c9 : w.cell? ⟨bb, 9, none⟩ = some (.bool s.tr) := h.cell 9
  have f8 := h.fr 8
  have f9 := h.fr 9
  have H1 : Hid (Inv bb (w.setCell ⟨bb, 9, none⟩ (.bool true)) { s with tr := true }) := h.set 9 _ rfl ⟨h.rows.v, h.rows.o, h.rows.i, h.rows.d, h.rows.x, h.rows.vi, h.rows.vd, h.rows.id, h.rows.le, h.rows.up⟩
  have H2 : Hid (Inv bb (w.setCell ⟨bb, 8, none⟩ (.int .i64 (s.tk + 1))) { s with tk := s.tk + 1 }) := h.set 8 _ rfl ⟨h.rows.v, h.rows.o, h.rows.i, h.rows.d, h.rows.x, h.rows.vi, h.rows.vd, h.rows.id, h.rows.le, h.rows.up⟩
  clear h
  by_cases hm : 0 < s.mv
  · have hd : decide (0 < s.mv) = true := by simpa using hm
    by_cases ht : s.mv ≤ s.tk
    · go_enter Yba.func20, Yba.ntmps20
      go_wp2
      go_quiet (fail)
      go_wp2
      go_ret
      exact ⟨onlyBB_set bb 9 w _ _, .inl ⟨rfl, H1.out.drewN _⟩⟩
    · go_enter Yba.func20, Yba.ntmps20
      go_wp2
      go_quiet (fail)
      go_wp2
      go_ret
      exact ⟨onlyBB_set bb 8 w _ _, .inr ⟨rfl, H2.out.drewN _⟩⟩
  · have hd : decide (0 < s.mv) = false := by simpa using hm
    go_enter Yba.func20, Yba.ntmps20
    go_wp2
    go_quiet (fail)
    go_wp2
    go_ret
    exact ⟨onlyBB_set bb 8 w _ _, .inr ⟨rfl, H2.out.drewN _⟩⟩
end Go.Proofs.Ybulkeesq
