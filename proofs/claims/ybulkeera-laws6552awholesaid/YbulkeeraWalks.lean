/- The two callees by their contracts. -/
import Derived.Test.YbulkeeraParts
import Derived.Deep.QuietTactic
import Derived.BigQuiet
import Derived.WalkSpells
namespace Go.Proofs.Ybulkeera
open Go.RowKit

theorem Yba.info5 : (Yba.prog.info? 5).map (fun i => (i.zero, i.size, i.bytes)) = some (some (.int .u8 0), 1, 1) := by kernel_rfl

theorem one_u8 (c : Int) : ∀ u ∈ [Value.int .u8 c], u.oneCell' = true := by
  intro u hu; simp at hu; subst hu; rfl

theorem olds_new {w wr : World} {g : Nat} {xs : List Value} (hb : Below w.heap.size w wr) (hglt : g < w.heap.size) (hold : ∀ j u, xs[j]? = some u → w.cell? ⟨g, j, none⟩ = some u) (o : Obj) :
    ∀ b : Addr, some (⟨g, 0, none⟩ : Addr) = some b → ∀ j u, xs[j]? = some u → (wr.alloc o).cell? (b.add j) = some u := by
  intro b hbb j u hj
  cases hbb
  rw [Go.WideShapes.add_plain, Nat.zero_add, (hb.alloc hb.size o).cell (p := ⟨g, j, none⟩) hglt]
  exact hold j u hj

theorem clean_any (c : Int) (w : World) :
    Calls Yba.prog 5 #[.int .u8 c] w fun e w' => e = .returned (.int .u8 (cl c)) ∧ w' = w := by
  by_cases h : c = 13 ∨ c = 10 ∨ c = 0
  · rw [cl_hit h]
    rcases h with rfl | rfl | rfl
    all_goals
      go_enter Yba.func5, Yba.ntmps5
      go_wp2
      go_ret
      exact ⟨rfl, rfl⟩
  · rw [cl_miss h]
    have h1 : (c == 13) = false := by simp; omega
    have h2 : (c == 10) = false := by simp; omega
    have h3 : (c == 0) = false := by simp; omega
    clear h
    go_enter Yba.func5, Yba.ntmps5
    go_wp2
    go_ret
    exact ⟨rfl, rfl⟩

set_option maxHeartbeats 1000000 in
theorem append_any (g n : Nat) (xs : List Value) (s : ByteArray) (w : World) (hn : n ≤ 1048576) (hs : s.size ≤ 1048576) (hxs : xs.length = n)
    (hold : ∀ j u, xs[j]? = some u → w.cell? ⟨g, j, none⟩ = some u) (hglt : g < w.heap.size) :
    Calls Yba.prog 4 #[.slice (some ⟨g, 0, none⟩) n n, .string s] w fun e w' => ∃ g' cap', e = .returned (.slice (some ⟨g', 0, none⟩) (n + s.size) cap') ∧
      (∀ j u, (xs ++ cln s.data.toList)[j]? = some u → w'.cell? ⟨g', j, none⟩ = some u) ∧ Below w.heap.size w w' := by
  obtain ⟨i0, hi, hz0, hz1, hz2⟩ := info_parts Yba.info5
  go_enter Yba.func4, Yba.ntmps4
  go_wp2
  go_loopw [0, 5] (fun v i wr => ∃ k : Nat, k ≤ s.size ∧ i = .int .i64 k ∧ Inv w (.slice (some ⟨g, 0, none⟩) n n) n xs s.data.toList k v wr) (fun _ i _ => s.size - (intOf i).toNat)
  case atStart => exact ⟨0, Nat.zero_le _, rfl, Below.refl _ _, .inl ⟨rfl, rfl⟩⟩
  case round =>
    obtain ⟨k, hk, rfl, hinv⟩ := hrel
    by_cases hlt : k < s.size
    · obtain ⟨hb, hinv⟩ := hinv
      have hwz := hb.size
      by_cases hc : ((s[k].toNat : Int) = 13 ∨ (s[k].toNat : Int) = 10 ∨ (s[k].toNat : Int) = 0)
      · have HC : Hid (cl s[k].toNat = 32) := cl_hit hc
        rcases hinv with ⟨rfl, rfl⟩ | ⟨hk0, hown⟩
        · rcases hc with hc | hc | hc
          all_goals
            go_wp2_with (at_builtin; refine wpList_append_grows _ rfl _ _ 22 rfl 5 i0 (.int .u8 0) 1 1 Yba.underlying22 hi hz0 hz1 hz2 rfl (by decide) (some ⟨g, 0, none⟩) n n xs rfl ?_ ?_ ?_ ⟨wr.heap.size, 0, none⟩ 1 1 [.int .u8 32] rfl rfl (cell_one_new _ _ _) ?_ ?_ ?_ ?_ ?_)
            · intro h; cases h
            · omega
            · exact olds_new hb hglt hold _
            · exact one_u8 _
            · omega
            · unfold maxLen; omega
            · omega
            · intro v' w1 hown' hgrow
              have R := inv_first (v0 := .slice (some ⟨g, 0, none⟩) n n) hlt hb HC.out hown' hgrow
              clear hown' hgrow hb HC
              go_wp2
              go_roundw
              case rel => exact ⟨0 + 1, by omega, by go_num, R⟩
              case measure => simp [intOf]; omega
        · rcases hc with hc | hc | hc
          all_goals
            go_wp2_with (at_builtin; refine wpList_append_own _ rfl _ _ 22 rfl w.heap.size 5 i0 (.int .u8 0) 1 1 Yba.underlying22 hi hz0 hz1 hz2 rfl (by decide) _ _ _ rfl (hown.alloc _) ⟨wr.heap.size, 0, none⟩ 1 1 [.int .u8 32] rfl rfl (cell_one_new _ _ _) ?_ ?_ ?_ ?_ ?_)
            · exact one_u8 _
            · unfold maxLen; omega
            · omega
            · simp; omega
            · intro v' w1 hown' hgrow _
              have R := inv_next (v0 := .slice (some ⟨g, 0, none⟩) n n) hlt hb HC.out hown hown' hgrow
              clear hown' hgrow hb hown HC
              go_wp2
              go_roundw
              case rel => exact ⟨k + 1, by omega, by go_num, R⟩
              case measure => simp [intOf]; omega
      · have HC : Hid (cl s[k].toNat = s[k].toNat) := cl_miss hc
        have c1 : ((s[k].toNat : Int) == 13) = false := by simp; omega
        have c2 : ((s[k].toNat : Int) == 10) = false := by simp; omega
        have c3 : ((s[k].toNat : Int) == 0) = false := by simp; omega
        clear hc
        rcases hinv with ⟨rfl, rfl⟩ | ⟨hk0, hown⟩
        · skip
          go_wp2_with (at_builtin; refine wpList_append_grows _ rfl _ _ 22 rfl 5 i0 (.int .u8 0) 1 1 Yba.underlying22 hi hz0 hz1 hz2 rfl (by decide) (some ⟨g, 0, none⟩) n n xs rfl ?_ ?_ ?_ ⟨wr.heap.size, 0, none⟩ 1 1 [.int .u8 s[0].toNat] rfl rfl (cell_one_new _ _ _) ?_ ?_ ?_ ?_ ?_)
          · intro h; cases h
          · omega
          · exact olds_new hb hglt hold _
          · exact one_u8 _
          · omega
          · unfold maxLen; omega
          · omega
          · intro v' w1 hown' hgrow
            have R := inv_first (v0 := .slice (some ⟨g, 0, none⟩) n n) hlt hb HC.out hown' hgrow
            clear hown' hgrow hb HC
            go_wp2
            go_roundw
            case rel => exact ⟨0 + 1, by omega, by go_num, R⟩
            case measure => simp [intOf]; omega
        · skip
          go_wp2_with (at_builtin; refine wpList_append_own _ rfl _ _ 22 rfl w.heap.size 5 i0 (.int .u8 0) 1 1 Yba.underlying22 hi hz0 hz1 hz2 rfl (by decide) _ _ _ rfl (hown.alloc _) ⟨wr.heap.size, 0, none⟩ 1 1 [.int .u8 s[k].toNat] rfl rfl (cell_one_new _ _ _) ?_ ?_ ?_ ?_ ?_)
          · exact one_u8 _
          · unfold maxLen; omega
          · omega
          · simp; omega
          · intro v' w1 hown' hgrow _
            have R := inv_next (v0 := .slice (some ⟨g, 0, none⟩) n n) hlt hb HC.out hown hown' hgrow
            clear hown' hgrow hb hown HC
            go_wp2
            go_roundw
            case rel => exact ⟨k + 1, by omega, by go_num, R⟩
            case measure => simp [intOf]; omega
    · go_wp2
      go_ret
      obtain ⟨g', cap', hv, hcell⟩ := inv_end (by omega) hxs hold hglt hinv
      exact ⟨g', cap', congrArg Ending.returned hv, hcell, hinv.1⟩
end Go.Proofs.Ybulkeera
