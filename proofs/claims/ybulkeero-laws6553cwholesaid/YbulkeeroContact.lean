/- The router's Contact (function 71). -/
import Derived.Test.YbulkeeroOps
namespace Go.Proofs.Ybulkeero
open Go.RowKit Go.Joins

/-- A new block of no row's is written. -/
theorem Moved.poke {B rb c : Nat} {idv : Value} {w w' w'' : World} {s s' : Nat → Row} (h : Moved B rb idv w s w' s') (hg : w'.grownBy w'' (some c)) (hrb : rb < w.heap.size) (hc : w.heap.size ≤ c) (hne : ∀ k, (s' k).val.ownBlock ≠ some c) : Moved B rb idv w s w'' s' := by
  refine ⟨⟨h.rt.lt, Nat.le_trans h.rt.size hg.size, ?_, fun k => (h.rt.own k).kept hg (.inr (hne k)), h.rt.sep⟩, ⟨hg.os.trans h.fr.os, hg.tape.trans h.fr.tape, hg.output.trans h.fr.output, Nat.le_trans h.fr.size hg.size, fun j hj hm => ?_⟩, h.from'⟩
  · rw [hg.block rb h.rt.rbLt (by simp; omega)]; exact h.rt.blk
  · rw [hg.block j (Nat.lt_of_lt_of_le hj h.fr.size) (by simp; omega)]; exact h.fr.block j hj hm
theorem grown_setCells (w : World) (b o : Nat) (vs : List Value) : w.grownBy (w.setCells b o vs) (some b) := by
  induction vs generalizing w o with
  | nil => exact grown_self _ _
  | cons v vs ih =>
    refine grown_trans (b := w.setCell ⟨b, o, none⟩ v) ?_ (ih _ _)
    exact ⟨by simp [World.setCell], by simp [World.setCell], by simp [World.setCell], by simp [World.setCell], fun k _ hk' => Below.heap_setCell _ _ _ _ (fun e => hk' (by simp [e]))⟩

/-- What Contact leaves. -/
def ContactTo (B rb : Nat) (idv : Value) (w : World) (s : Nat → Row) (id : List Int) (e : Ending) (w' : World) : Prop :=
  e = .returned (.tuple #[.agg (by8 (contact id)).toArray, .bool true]) ∧ ∃ s', Moved B rb idv w s w' s' ∧ (s' 3).xs = (s 3).xs ++ by8 id ∧ (s' 3).n = (s 3).n + 1 ∧ ∀ k, k ≠ 3 → s' k = s k

theorem contact_start (B rb : Nat) (idv : Value) (w : World) (s : Nat → Row) (id : List Int) (Z : Array Value) (h : RtAt B rb idv w s) (hZ : Z.size = 51) :
    Moved B rb idv w s ((w.alloc (.cells (by8 id).toArray 27)).alloc (.cells Z 162)).drew s ∧ AppS rb 3 (.slice (s 3).a (s 3).n (s 3).c) w.heap.size id ((w.alloc (.cells (by8 id).toArray 27)).alloc (.cells Z 162)).drew ∧ ((w.alloc (.cells (by8 id).toArray 27)).alloc (.cells Z 162)).drew.there (w.heap.size + 1) 0 51 := by
  have M := (((Moved.refl h).alloc (.cells (by8 id).toArray 27)).alloc (.cells Z 162)).drew
  refine ⟨M, ⟨M.rt.cell.2.2.2.1, ?_⟩, ?_⟩
  · exact (World.rangeAt_drew _ _ _ _).2 (World.rangeAt_alloc (range_new w (by8 id) 27) _)
  · rw [World.there_drew]
    have := there_new (w.alloc (.cells (by8 id).toArray 27)) Z 162 51 hZ
    simpa using this

set_option maxHeartbeats 1000000 in
set_option maxRecDepth 20000 in
theorem contact_any (B rb : Nat) (idv : Value) (w : World) (s : Nat → Row) (id : List Int) (h : RtAt B rb idv w s) (hl : id.length = 20) (hn : (s 3).n ≤ 1000) :
    Calls Yba.prog 71 #[.pointer (some ⟨rb, 0, none⟩), .agg (by8 id).toArray] w (ContactTo B rb idv w s id) := by
  have HR := hid h
  clear h
  go_enter Yba.func71, Yba.ntmps71
  go_wp2
  rename_i K0 hK0
  have hlt1 : w.heap.size + 1 < ((w.alloc (.cells (by8 id).toArray 27)).alloc (.cells #[.int .u8 0, .int .u8 0, .int .u8 0, .int .u8 0, .int .u8 0, .int .u8 0, .int .u8 0, .int .u8 0, .int .u8 0, .int .u8 0, .int .u8 0, .int .u8 0, .int .u8 0, .int .u8 0, .int .u8 0, .int .u8 0, .int .u8 0, .int .u8 0, .int .u8 0, .int .u8 0, .int .u8 0, .int .u8 0, .int .u8 0, .int .u8 0, .int .u8 0, .int .u8 0, .int .u8 0, .int .u8 0, .int .u8 0, .int .u8 0, .int .u8 0, .int .u8 0, .int .u8 0, .int .u8 0, .int .u8 0, .int .u8 0, .int .u8 0, .int .u8 0, .int .u8 0, .int .u8 0, .int .u8 0, .int .u8 0, .int .u8 0, .int .u8 0, .int .u8 0, .int .u8 0, .int .u8 0, .int .u8 0, .int .u8 0, .int .u8 0, .int .u8 0] 162)).heap.size := by simp
  have HS := hid (contact_start B rb idv w s id #[.int .u8 0, .int .u8 0, .int .u8 0, .int .u8 0, .int .u8 0, .int .u8 0, .int .u8 0, .int .u8 0, .int .u8 0, .int .u8 0, .int .u8 0, .int .u8 0, .int .u8 0, .int .u8 0, .int .u8 0, .int .u8 0, .int .u8 0, .int .u8 0, .int .u8 0, .int .u8 0, .int .u8 0, .int .u8 0, .int .u8 0, .int .u8 0, .int .u8 0, .int .u8 0, .int .u8 0, .int .u8 0, .int .u8 0, .int .u8 0, .int .u8 0, .int .u8 0, .int .u8 0, .int .u8 0, .int .u8 0, .int .u8 0, .int .u8 0, .int .u8 0, .int .u8 0, .int .u8 0, .int .u8 0, .int .u8 0, .int .u8 0, .int .u8 0, .int .u8 0, .int .u8 0, .int .u8 0, .int .u8 0, .int .u8 0, .int .u8 0, .int .u8 0] HR.out rfl)
  generalize hw1 : ((w.alloc (.cells (by8 id).toArray 27)).alloc (.cells #[.int .u8 0, .int .u8 0, .int .u8 0, .int .u8 0, .int .u8 0, .int .u8 0, .int .u8 0, .int .u8 0, .int .u8 0, .int .u8 0, .int .u8 0, .int .u8 0, .int .u8 0, .int .u8 0, .int .u8 0, .int .u8 0, .int .u8 0, .int .u8 0, .int .u8 0, .int .u8 0, .int .u8 0, .int .u8 0, .int .u8 0, .int .u8 0, .int .u8 0, .int .u8 0, .int .u8 0, .int .u8 0, .int .u8 0, .int .u8 0, .int .u8 0, .int .u8 0, .int .u8 0, .int .u8 0, .int .u8 0, .int .u8 0, .int .u8 0, .int .u8 0, .int .u8 0, .int .u8 0, .int .u8 0, .int .u8 0, .int .u8 0, .int .u8 0, .int .u8 0, .int .u8 0, .int .u8 0, .int .u8 0, .int .u8 0, .int .u8 0, .int .u8 0] 162)) = w1 at *
  clear hw1
  refine beginE [10] (AppS rb 3 (.slice (s 3).a (s 3).n (s 3).c) w.heap.size id) (by kernel_rfl) HS.out.2.1 (fun hHeld => ?_)
  refine takeE 0 { dst := some 6, op := Op.move (Operand.tmp 0), type := 29, pos := "zz_law_s6553a.go:55", after := #[], guard := none } (.pointer (some ⟨rb, 0, none⟩)) rfl (by kernel_rfl) (by kernel_rfl) (by kernel_rfl) (by kernel_rfl) (fun _ _ _ h => h) (Or.inl ⟨by rfl, by intro w hSw; clear hSw; go_simp⟩) hHeld ?_
  simp only [Act.put, List.setIfInBounds_toArray, List.set_cons_zero, List.set_cons_succ]
  refine takeE 1 { dst := some 7, op := Op.move (Operand.tmp 0), type := 29, pos := "zz_law_s6553a.go:55", after := #[], guard := none } (.pointer (some ⟨rb, 0, none⟩)) rfl (by kernel_rfl) (by kernel_rfl) (by kernel_rfl) (by kernel_rfl) (fun _ _ _ h => h) (Or.inl ⟨by rfl, by intro w hSw; clear hSw; go_simp⟩) hHeld ?_
  simp only [Act.put, List.setIfInBounds_toArray, List.set_cons_zero, List.set_cons_succ]
  refine takeE 2 { dst := some 8, op := Op.nilCheck (Operand.tmp 7), type := 0, pos := "zz_law_s6553a.go:55", after := #[{ on := 1, ground := Ground.data }], guard := none } (.pointer (some ⟨rb, 0, none⟩)) rfl (by kernel_rfl) (by kernel_rfl) (by kernel_rfl) (by kernel_rfl) (fun _ _ _ h => h) (Or.inl ⟨by rfl, by intro w hSw; clear hSw; go_simp⟩) hHeld ?_
  simp only [Act.put, List.setIfInBounds_toArray, List.set_cons_zero, List.set_cons_succ]
  refine takeE 3 { dst := some 9, op := Op.fieldAddr 33 (Operand.tmp 8) 3, type := 0, pos := "zz_law_s6553a.go:55", after := #[{ on := 2, ground := Ground.data }], guard := none } (.pointer (some ⟨rb, 3, none⟩)) rfl (by kernel_rfl) (by kernel_rfl) (by kernel_rfl) (by kernel_rfl) (fun _ _ _ h => h) (Or.inl ⟨by rfl, by intro w hSw; clear hSw; go_simp⟩) hHeld ?_
  simp only [Act.put, List.setIfInBounds_toArray, List.set_cons_zero, List.set_cons_succ]
  refine takeE 4 { dst := some 10, op := Op.load 28 (Operand.tmp 9), type := 28, pos := "zz_law_s6553a.go:55", after := #[{ on := 3, ground := Ground.data }], guard := none } (.slice (s 3).a (s 3).n (s 3).c) rfl (by kernel_rfl) (by kernel_rfl) (by kernel_rfl) (by kernel_rfl) (fun _ _ _ h => h) (Or.inl ⟨by rfl, by intro w hSw; have hSc := hSw.cell; clear hSw; go_simp⟩) hHeld ?_
  simp only [Act.put, List.setIfInBounds_toArray, List.set_cons_zero, List.set_cons_succ]
  refine takeE 5 { dst := some 11, op := Op.load 27 (Operand.tmp 3), type := 27, pos := "zz_law_s6553a.go:55", after := #[], guard := none } (.agg (by8 id).toArray) rfl (by kernel_rfl) (by kernel_rfl) (by kernel_rfl) (by kernel_rfl) (fun _ _ _ h => h) (Or.inl ⟨by rfl, fun w hSw => load27 rfl rfl hl hSw.box⟩) hHeld ?_
  simp only [Act.put, List.setIfInBounds_toArray, List.set_cons_zero, List.set_cons_succ]
  refine stepE 6 { dst := some 12, op := Op.buildSlice 28 1 #[(0, Operand.tmp 11)], type := 28, pos := "zz_law_s6553a.go:55", after := #[{ on := 5, ground := Ground.data }], guard := none } rfl (by kernel_rfl) (fun K hK => ?_)
  rw [if_pos (by rfl)]
  refine wp_value (buildSlice_exec rfl hl rfl) ?_
  simp only [Act.put, List.setIfInBounds_toArray, List.set_cons_zero, List.set_cons_succ]
  have M2 := HS.out.1.alloc (.cells (by8 id).toArray 27)
  have hS2 := hHeld.grown (grown_alloc _ (.cells (by8 id).toArray 27) none) (by simp) (by simp)
  have hsrc := range_new w1.drew (by8 id) 27
  have hg2 : w1.drew.grownBy (w1.drew.alloc (.cells (by8 id).toArray 27)) none := grown_alloc _ _ _
  generalize hw2 : w1.drew.alloc (.cells (by8 id).toArray 27) = w2 at *
  refine hK _ _ (fun _ => hS2) ?_
  clear hK K hw2
  refine stepE 7 { dst := some 13, op := Op.call { callee := Callee.builtin Builtin.append, args := #[Operand.tmp 10, Operand.tmp 12], argTypes := #[28, 28] }, type := 28, pos := "zz_law_s6553a.go:55", after := #[{ on := 4, ground := Ground.data }, { on := 6, ground := Ground.data }], guard := none } rfl (by kernel_rfl) (fun K hK => ?_)
  refine step_append_caps rfl (.tmp 10) (.tmp 12) 28 rfl B 27 20 20 Yba.underlying28 Yba.row27 (by decide) _ _ _ _ rfl (M2.rt.own 3) _ 1 1 (by8 id) rfl (by rw [by8_length, hl]) (fun j u hj => by rw [Addr.add_mid]; exact hsrc j u hj) (by8_one _) (by decide) (by unfold maxLen; omega) (by omega) M2.rt.size ?_
  intro g cap' w3 hown hg hat hcap
  simp only [Act.put, List.setIfInBounds_toArray, List.set_cons_zero, List.set_cons_succ]
  have hne : (Value.slice (s 3).a (s 3).n (s 3).c).ownBlock ≠ some rb := fun e => by have := ((HR.out.own 3).lt _ e).1; have := HR.out.lt; omega
  have hS3 := hS2.grown hg hne (fun e => by have := ((HR.out.own 3).lt _ e).2; omega)
  have M3 := RtAt.app (k := 3) M2.rt (by decide) (by decide) ⟨some ⟨g, 0, none⟩, (s 3).n + 1, cap', (s 3).xs ++ by8 id⟩ hg hown (by rcases hat with h | h; exact .inl h.symm; exact .inr ⟨g, rfl, h⟩)
  have hth := there_grown (there_grown (w' := w2) HS.out.2.2 hg2 (by simp) (by simpa using hlt1)) hg (fun e => by have := ((HR.out.own 3).lt _ e).2; omega) (by have := hg2.size; have e1 : w1.drew.heap.size = w1.heap.size := rfl; omega)
  refine hK _ _ (fun _ => hS3) ?_
  clear hK K
  refine stepE 8 { dst := some 14, op := Op.nilCheck (Operand.tmp 6), type := 0, pos := "zz_law_s6553a.go:55", after := #[{ on := 0, ground := Ground.data }, { on := 0, ground := Ground.phase }, { on := 1, ground := Ground.phase }, { on := 2, ground := Ground.phase }, { on := 3, ground := Ground.phase }, { on := 4, ground := Ground.phase }, { on := 5, ground := Ground.phase }, { on := 6, ground := Ground.phase }, { on := 7, ground := Ground.phase }], guard := none } rfl (by kernel_rfl) (fun K hK => ?_)
  rw [if_pos (by rfl)]
  refine wp_same (.pointer (some ⟨rb, 0, none⟩)) (by go_simp) ?_
  simp only [Act.put, List.setIfInBounds_toArray, List.set_cons_zero, List.set_cons_succ]
  refine hK _ _ (fun _ => hS3) ?_
  clear hK K
  refine stepE 9 { dst := some 15, op := Op.fieldAddr 33 (Operand.tmp 14) 3, type := 0, pos := "zz_law_s6553a.go:55", after := #[{ on := 8, ground := Ground.data }, { on := 0, ground := Ground.phase }, { on := 1, ground := Ground.phase }, { on := 2, ground := Ground.phase }, { on := 3, ground := Ground.phase }, { on := 4, ground := Ground.phase }, { on := 5, ground := Ground.phase }, { on := 6, ground := Ground.phase }, { on := 7, ground := Ground.phase }], guard := none } rfl (by kernel_rfl) (fun K hK => ?_)
  rw [if_pos (by rfl)]
  refine wp_same (.pointer (some ⟨rb, 3, none⟩)) (by go_simp) ?_
  simp only [Act.put, List.setIfInBounds_toArray, List.set_cons_zero, List.set_cons_succ]
  refine hK _ _ (fun _ => hS3) ?_
  clear hK K
  refine stepE 10 { dst := none, op := Op.store 28 (Operand.tmp 15) (Operand.tmp 13), type := 0, pos := "zz_law_s6553a.go:55", after := #[{ on := 9, ground := Ground.data }, { on := 7, ground := Ground.data }, { on := 7, ground := Ground.chain }, { on := 0, ground := Ground.phase }, { on := 1, ground := Ground.phase }, { on := 2, ground := Ground.phase }, { on := 3, ground := Ground.phase }, { on := 4, ground := Ground.phase }, { on := 5, ground := Ground.phase }, { on := 6, ground := Ground.phase }, { on := 7, ground := Ground.phase }], guard := none } rfl (by kernel_rfl) (fun K hK => ?_)
  rw [if_pos (by rfl)]
  refine wp_skip' (store28 rfl rfl rfl hS3.cell (by rw [show w3.frozen? ⟨rb, 3, none⟩ = w2.frozen? ⟨rb, 3, none⟩ from World.frozen?_of_block (w := w2) (hg.block rb M2.rt.rbLt (Ne.symm hne))]; exact M2.rt.thaw 3)) ?_
  refine hK _ _ (fun h => by cases h) (doneE (by kernel_rfl) ?_ _)
  simp only [Act.put]
  have hbox4 : (w3.setCell ⟨rb, 3, none⟩ (.slice (some ⟨g, 0, none⟩) ((s 3).n + 1) cap')).rangeAt w.heap.size 0 (by8 id) := fun j v hj => by
    have hrb := HR.out.rbLt
    rw [World.cell?_setCell_far _ _ _ _ (by simp; omega)]
    exact hS3.box j v hj
  have hth4 : (w3.setCell ⟨rb, 3, none⟩ (.slice (some ⟨g, 0, none⟩) ((s 3).n + 1) cap')).there (w.heap.size + 1) 0 51 := by
    have hrb := HR.out.rbLt
    exact there_grown hth (r := some rb) ⟨by simp [World.setCell], by simp [World.setCell], by simp [World.setCell], by simp [World.setCell], fun k _ hk => Below.heap_setCell _ _ _ _ (fun e => hk (by simp [e]))⟩ (by simp; omega) (by have := hg.size; have := hg2.size; have e1 : w1.drew.heap.size = w1.heap.size := rfl; omega)
  have M4 := M2.trans M3
  have hnc : ∀ k, (upd s 3 ⟨some ⟨g, 0, none⟩, (s 3).n + 1, cap', (s 3).xs ++ by8 id⟩ k).val.ownBlock ≠ some (w.heap.size + 1) := fun k e => by
    rcases M3.from' k _ e with h1 | h1
    · have := ((HR.out.own k).lt _ h1).2; omega
    · have := hg2.size; have e1 : w1.drew.heap.size = w1.heap.size := rfl; omega
  change Moved B rb idv w s (w3.setCell ⟨rb, 3, none⟩ (.slice (some ⟨g, 0, none⟩) ((s 3).n + 1) cap')) _ at M4
  generalize w3.setCell ⟨rb, 3, none⟩ (.slice (some ⟨g, 0, none⟩) ((s 3).n + 1) cap') = w4 at *
  clear hK K M3 hth hS3 hg hat hown hcap hS2 hsrc hHeld HS hne
  refine hK0 _ _ (wp_seq (wp_region_list ?_))
  refine wpList_value rfl (load27 rfl rfl hl hbox4) ?_
  simp only [Act.put, List.setIfInBounds_toArray, List.set_cons_zero, List.set_cons_succ]
  refine wpList_value rfl (build162_exec rfl hl rfl) ?_
  simp only [Act.put, List.setIfInBounds_toArray, List.set_cons_zero, List.set_cons_succ]
  refine wpList_skip rfl (exec_store_mid 162 _ _ rfl (w.heap.size + 1) 0 (by8 (contact id)).toArray rfl rfl ?_ ?_ (all_oneCell_toArray (by8_one _))) ?_
  · rw [contact_size hl]; exact hth4
  · rw [contact_size hl]; exact Yba.size162
  simp only [Act.put]
  have hr := World.rangeAt_setCells_same w4 (w.heap.size + 1) 0 (by8 (contact id)) (by rw [contact_length hl]; exact hth4)
  have M5 := M4.poke (grown_setCells w4 (w.heap.size + 1) 0 (by8 (contact id))) HR.out.rbLt (Nat.le_succ _) hnc
  generalize w4.setCells (w.heap.size + 1) 0 (by8 (contact id)) = w5 at *
  have D : Hid (ContactTo B rb idv w s id (.returned (.tuple #[.agg (by8 (contact id)).toArray, .bool true])) w5) := ⟨rfl, _, M5, by rw [upd_same], by rw [upd_same], fun k hk => upd_other _ _ hk⟩
  have HX := hid hr
  clear hr M5 M4 hth4 hbox4 hnc
  go_wp2
  refine bodyPost_ret (v := .tuple #[.agg (by8 (contact id)).toArray, .bool true]) ?_ rfl D.out
  simp [results, Yba.f71, asAddr, run_loadVar_mid w5 (w.heap.size + 1) 0 162 (by8 (contact id)) _ HX.out Yba.underlying162 rfl (by rw [contact_length hl]; exact Yba.size162)]

end Go.Proofs.Ybulkeero
