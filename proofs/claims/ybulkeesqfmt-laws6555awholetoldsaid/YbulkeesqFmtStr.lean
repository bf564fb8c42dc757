/- AppendUint16 and str. -/
import Derived.Test.YbulkeesqFmtCalls
import Derived.Laws.AppendOwnNone
import Derived.Deep.RegionWith
namespace Go.Proofs.YbulkeesqFmt
open Go.RowKit Go.Joins Go.Extern.Stop Go.Stop Go.Extern

theorem Ybaf.info5 : (Ybaf.prog.info? 5).map (fun i => (i.zero, i.size, i.bytes)) = some (some (.int .u8 0), 1, 1) := by kernel_rfl

theorem grown_alloc {w w' : World} {row : Option Nat} {o : Obj} (h : (w.alloc o).grownBy w' row) : w.grownBy w' row :=
  ⟨h.os, h.tape, h.output, Nat.le_trans (by simp) h.size, fun k hk hr => (h.block k (by simp; omega) hr).trans (Below.heap_alloc _ _ _ hk)⟩

theorem two_u8 (a b : Int) : ∀ u ∈ [Value.int .u8 a, .int .u8 b], u.oneCell' = true := by
  intro u hu; simp at hu; rcases hu with rfl | rfl <;> rfl

theorem app16 (base n : Nat) (v : Value) (xs : List Value) (x : Int) (w : World) (hown : w.ownsRow base 5 1 v n xs) (hb : base ≤ w.heap.size) (hn : n ≤ 4000000) (h0 : 0 ≤ x) (h1 : x ≤ 65535) :
    Calls Ybaf.prog 10 #[.agg #[], v, .int .u16 x] w fun e w' => ∃ g' cap', e = .returned (.slice (some ⟨g', 0, none⟩) (n + 2) cap') ∧ w'.ownsRow base 5 1 (.slice (some ⟨g', 0, none⟩) (n + 2) cap') (n + 2) (xs ++ [.int .u8 (x / 256), .int .u8 (x % 256)]) ∧ w.grownBy w' v.ownBlock := by
  obtain ⟨i0, hi, hz0, hz1, hz2⟩ := info_parts Ybaf.info5
  go_enter Ybaf.func10, Ybaf.ntmps10
  go_wp2_with (at_builtin; go_must (refine wpList_append_own _ rfl _ _ 22 rfl base 5 i0 (.int .u8 0) 1 1 Ybaf.underlying22 hi hz0 hz1 hz2 rfl (by decide) v n xs rfl ((hown.alloc _).alloc _) ⟨w.heap.size + 1, 0, none⟩ 2 2 [.int .u8 (x / 256), .int .u8 (x % 256)] rfl rfl ?_ (two_u8 _ _) ?_ ?_ ?_ ?_))
  · intro j u hj
    match j, hj with
    | 0, hj => simp at hj; subst hj; simp [Addr.add]
    | 1, hj => simp at hj; subst hj; simp [Addr.add]
    | j + 2, hj => simp at hj
  · unfold maxLen; omega
  · omega
  · simp; omega
  · intro v' w1 hown' hg _
    obtain ⟨g', cap', rfl⟩ := ownsRow_form hown' (by omega)
    clear hown
    go_wp2
    go_ret
    exact ⟨g', cap', rfl, hown', grown_alloc (grown_alloc hg)⟩
end Go.Proofs.YbulkeesqFmt
