/- The router's Call (function 69). -/
import Derived.Test.YbulkeeroContact
namespace Go.Proofs.Ybulkeero
open Go.RowKit Go.Joins

theorem wp_enter {P : Program} {o : Oper} {a : Act} {w : World} {K : Act → World → Prop} {Q : Exit → Act → World → Prop} (f : FuncId) (args : Array Value) (h : (execOp a.eval o).run P w = .ok (.enter f args) w) {R : Ending → World → Prop} (hc : Calls P f args w R)
    (hk : ∀ e w', R e w' → ∃ v, e = .returned v ∧ K (a.put o.dst v) w') : o.wp P a w K Q := by
  unfold Oper.wp
  rw [h]
  exact hc.mono (fun e w' hr => by obtain ⟨v, rfl, hk⟩ := hk e w' hr; exact hk)
theorem buildSlice31 {ρ : Operand → Value} {o : Oper} {w : World} {x : Operand} (ho : o.op = .buildSlice 31 1 #[(0, x)]) {a : Option Addr} {n c : Nat} (hx : ρ x = .slice a n c) :
    (execOp ρ o).run Yba.prog w = .ok (.value (.slice (some ⟨w.heap.size, 0, none⟩) 1 1)) (w.alloc (.cells [Value.slice a n c].toArray 25)) := by
  unfold execOp
  simp [ho, hx, go_sem]
theorem range_prefix {w : World} {b o : Nat} {l r : List Value} (h : w.rangeAt b o (l ++ r)) : w.rangeAt b o l := fun j v hj => h j v (by rw [List.getElem?_append_left (List.getElem?_eq_some_iff.1 hj).1]; exact hj)
theorem contact_by8 (id : List Int) : by8 (contact id) = by8 id ++ by8 (List.replicate 31 0) := by unfold contact by8; rw [List.map_append]
theorem setCell_grown (w : World) (b o : Nat) (v : Value) : w.grownBy (w.setCell ⟨b, o, none⟩ v) (some b) :=
  ⟨by simp [World.setCell], by simp [World.setCell], by simp [World.setCell], by simp [World.setCell], fun k _ hk => Below.heap_setCell _ _ _ _ (fun e => hk (by simp [e]))⟩

/-- What Call leaves. -/
structure CallTo (B rb : Nat) (idv : Value) (w : World) (s : Nat → Row) (id l : List Int) (w' : World) (s' : Nat → Row) (a' : Option Addr) (c' : Nat) : Prop where
  moved : Moved B rb idv w s w' s'
  x4 : (s' 4).xs = (s 4).xs ++ by8 id
  n4 : (s' 4).n = (s 4).n + 1
  x5 : (s' 5).xs = (s 5).xs ++ [.slice a' l.length c']
  n5 : (s' 5).n = (s 5).n + 1
  rest : ∀ k, k ≠ 4 → k ≠ 5 → s' k = s k
  copy : w'.ownsRow w.heap.size 5 1 (.slice a' l.length c') l.length (by8 l)
  apart : ∀ k b, (s' k).val.ownBlock = some b → (Value.slice a' l.length c').ownBlock ≠ some b

theorem equal166 (w : World) (d : Nat) : (Op.equalIn (d + 1) 166 (.func (.func 23) #[] #[]) .nilFunc).run Yba.prog w = .ok false w := by
  simp [Op.equalIn, run_underlying Yba.underlying166]
theorem neq166 (w : World) : (binOp .neq 166 (.func (.func 23) #[] #[]) .nilFunc).run Yba.prog w = .ok (.bool true) w := by
  have h : (Op.equal 166 (.func (.func 23) #[] #[]) .nilFunc).run Yba.prog w = .ok false w := equal166 w 9999
  simp only [binOp]
  simp [h]
theorem owns_mono {w : World} {base base' size n : Nat} {e : TypeId} {v : Value} {xs : List Value} (h : w.ownsRow base e size v n xs) (hb : base' ≤ base) : w.ownsRow base' e size v n xs := by
  obtain ⟨h1, h2 | ⟨g, cap, cur, hv, hbg, r⟩⟩ := h
  · exact ⟨h1, .inl h2⟩
  · exact ⟨h1, .inr ⟨g, cap, cur, hv, Nat.le_trans hb hbg, r⟩⟩
theorem call_done {B rb g cap' : Nat} {idv : Value} {w w4 w5 w6 w7 : World} {s s4 : Nat → Row} {id l : List Int} {g4 c4 : Nat} {a5 : Option Addr} {c5 : Nat} (_h : RtAt B rb idv w s) (M4 : Moved B rb idv w s w4 s4) (h4 : ∀ k, k ≠ 4 → s4 k = s k) (h44 : s4 4 = ⟨some ⟨g4, 0, none⟩, (s 4).n + 1, c4, (s 4).xs ++ by8 id⟩)
    (_hown5 : w5.ownsRow w4.drew.heap.size 5 1 (.slice a5 l.length c5) l.length (by8 l)) (_hg5 : w4.drew.grownBy w5 none) (hown6 : w6.ownsRow w4.drew.heap.size 5 1 (.slice a5 l.length c5) l.length (by8 l)) (M6 : Moved B rb idv w s w6 s4) (_hg6 : w5.grownBy w6 none)
    (hg : w6.grownBy w7 (s4 5).val.ownBlock) (M7 : Moved B rb idv w6 s4 (w7.setCell ⟨rb, 5, none⟩ (Row.mk (some ⟨g, 0, none⟩) ((s4 5).n + 1) cap' ((s4 5).xs ++ [Value.slice a5 l.length c5])).val) (upd s4 5 ⟨some ⟨g, 0, none⟩, (s4 5).n + 1, cap', (s4 5).xs ++ [Value.slice a5 l.length c5]⟩)) :
    CallTo B rb idv w s id l (w7.setCell ⟨rb, 5, none⟩ (Row.mk (some ⟨g, 0, none⟩) ((s4 5).n + 1) cap' ((s4 5).xs ++ [Value.slice a5 l.length c5])).val) (upd s4 5 ⟨some ⟨g, 0, none⟩, (s4 5).n + 1, cap', (s4 5).xs ++ [Value.slice a5 l.length c5]⟩) a5 c5 := by
  have hd : w4.drew.heap.size = w4.heap.size := rfl
  have hlow : ∀ b, (Value.slice a5 l.length c5).ownBlock = some b → w4.heap.size ≤ b ∧ b < w6.heap.size := fun b hb => by have := hown6.lt b hb; omega
  have hrow : ∀ k b, (s4 k).val.ownBlock = some b → b < w4.heap.size := fun k b hb => ((M4.rt.own k).lt b hb).2
  refine ⟨M6.trans M7, ?_, ?_, ?_, ?_, ?_, ?_, ?_⟩
  · rw [upd_other _ _ (by decide), h44]
  · rw [upd_other _ _ (by decide), h44]
  · rw [upd_same, h4 5 (by decide)]
  · rw [upd_same, h4 5 (by decide)]
  · intro k h1 h2
    rw [upd_other _ _ h2, h4 k h1]
  · have e : w7.ownsRow w4.drew.heap.size 5 1 (.slice a5 l.length c5) l.length (by8 l) := hown6.kept hg (by
      cases hb : (Value.slice a5 l.length c5).ownBlock with
      | none => exact .inl rfl
      | some b => exact .inr (fun e => by have := (hlow b hb).1; have := hrow 5 b e.symm; omega))
    refine owns_mono (owns_other e ?_ _) (by rw [hd]; exact M4.fr.size)
    intro e'
    have := (hlow _ e').1
    have := M4.rt.rbLt
    simp only at *
    omega
  · intro k b hk hb
    have h1 := hlow b hb
    rcases M7.from' k b hk with h2 | h2
    · have := hrow k b h2; omega
    · omega

theorem call_start (B rb : Nat) (idv : Value) (w : World) (s : Nat → Row) (id : List Int) (h : RtAt B rb idv w s) :
    Moved B rb idv w s (w.alloc (.cells (by8 (contact id)).toArray 162)).drew s ∧ AppS rb 4 (.slice (s 4).a (s 4).n (s 4).c) w.heap.size id (w.alloc (.cells (by8 (contact id)).toArray 162)).drew := by
  have M := ((Moved.refl h).alloc (.cells (by8 (contact id)).toArray 162)).drew
  refine ⟨M, M.rt.cell.2.2.2.2.1, (World.rangeAt_drew _ _ _ _).2 ?_⟩
  have := range_new w (by8 (contact id)) 162
  rw [contact_by8] at this ⊢
  exact range_prefix this

set_option maxHeartbeats 1000000 in
set_option maxRecDepth 20000 in
theorem call_any (B rb : Nat) (idv : Value) (w : World) (s : Nat → Row) (id l : List Int) (ra : Option Addr) (rc : Nat) (h : RtAt B rb idv w s) (hl : id.length = 20) (hn4 : (s 4).n ≤ 1000) (hn5 : (s 5).n ≤ 1000)
    (hsrc : Src w ra (by8 l)) (hnil : ra = none → l.length = 0) (hln : l.length ≤ 100000000) (hap : ∀ x, ra = some x → x.block ≠ rb ∧ ∀ k, (s k).val.ownBlock ≠ some x.block) :
    Calls Yba.prog 69 #[.pointer (some ⟨rb, 0, none⟩), .agg (by8 (contact id)).toArray, .slice ra l.length rc, .func (.func 23) #[] #[]] w fun e w' => e = .returned (.tuple #[]) ∧ ∃ s' a' c', CallTo B rb idv w s id l w' s' a' c' := by
  have HR := hid h
  have HQ := hid hsrc
  have HP := hid hap
  have HN := hid hnil
  clear h hsrc hap hnil
  go_enter Yba.func69, Yba.ntmps69
  go_wp2
  rename_i K0 hK0
  have HS := hid (call_start B rb idv w s id HR.out)
  have hg1 : w.grownBy (w.alloc (.cells (by8 (contact id)).toArray 162)).drew none := grown_trans (grown_alloc _ _ _) (grown_drew _)
  generalize hw1 : (w.alloc (.cells (by8 (contact id)).toArray 162)) = w1 at *
  clear hw1
  refine beginE [11] (AppS rb 4 (.slice (s 4).a (s 4).n (s 4).c) w.heap.size id) (by kernel_rfl) HS.out.2 (fun hHeld => ?_)
  refine takeE 0 { dst := some 8, op := Op.move (Operand.tmp 0), type := 29, pos := "zz_law_s6553a.go:30", after := #[], guard := none } (.pointer (some ⟨rb, 0, none⟩)) rfl (by kernel_rfl) (by kernel_rfl) (by kernel_rfl) (by kernel_rfl) (fun _ _ _ h => h) (Or.inl ⟨by rfl, by intro w hSw; clear hSw; go_simp⟩) hHeld ?_
  simp only [Act.put, List.setIfInBounds_toArray, List.set_cons_zero, List.set_cons_succ]
  refine takeE 1 { dst := some 9, op := Op.move (Operand.tmp 0), type := 29, pos := "zz_law_s6553a.go:30", after := #[], guard := none } (.pointer (some ⟨rb, 0, none⟩)) rfl (by kernel_rfl) (by kernel_rfl) (by kernel_rfl) (by kernel_rfl) (fun _ _ _ h => h) (Or.inl ⟨by rfl, by intro w hSw; clear hSw; go_simp⟩) hHeld ?_
  simp only [Act.put, List.setIfInBounds_toArray, List.set_cons_zero, List.set_cons_succ]
  refine takeE 2 { dst := some 10, op := Op.nilCheck (Operand.tmp 9), type := 0, pos := "zz_law_s6553a.go:30", after := #[{ on := 1, ground := Ground.data }], guard := none } (.pointer (some ⟨rb, 0, none⟩)) rfl (by kernel_rfl) (by kernel_rfl) (by kernel_rfl) (by kernel_rfl) (fun _ _ _ h => h) (Or.inl ⟨by rfl, by intro w hSw; clear hSw; go_simp⟩) hHeld ?_
  simp only [Act.put, List.setIfInBounds_toArray, List.set_cons_zero, List.set_cons_succ]
  refine takeE 3 { dst := some 11, op := Op.fieldAddr 33 (Operand.tmp 10) 4, type := 0, pos := "zz_law_s6553a.go:30", after := #[{ on := 2, ground := Ground.data }], guard := none } (.pointer (some ⟨rb, 4, none⟩)) rfl (by kernel_rfl) (by kernel_rfl) (by kernel_rfl) (by kernel_rfl) (fun _ _ _ h => h) (Or.inl ⟨by rfl, by intro w hSw; clear hSw; go_simp⟩) hHeld ?_
  simp only [Act.put, List.setIfInBounds_toArray, List.set_cons_zero, List.set_cons_succ]
  refine takeE 4 { dst := some 12, op := Op.load 28 (Operand.tmp 11), type := 28, pos := "zz_law_s6553a.go:30", after := #[{ on := 3, ground := Ground.data }], guard := none } (.slice (s 4).a (s 4).n (s 4).c) rfl (by kernel_rfl) (by kernel_rfl) (by kernel_rfl) (by kernel_rfl) (fun _ _ _ h => h) (Or.inl ⟨by rfl, by intro w hSw; have hSc := hSw.cell; clear hSw; go_simp⟩) hHeld ?_
  simp only [Act.put, List.setIfInBounds_toArray, List.set_cons_zero, List.set_cons_succ]
  refine takeE 5 { dst := some 13, op := Op.fieldAddr 162 (Operand.tmp 5) 0, type := 0, pos := "zz_law_s6553a.go:30", after := #[], guard := none } (.pointer (some ⟨w.heap.size, 0, none⟩)) rfl (by kernel_rfl) (by kernel_rfl) (by kernel_rfl) (by kernel_rfl) (fun _ _ _ h => h) (Or.inl ⟨by rfl, by intro w hSw; clear hSw; go_simp⟩) hHeld ?_
  simp only [Act.put, List.setIfInBounds_toArray, List.set_cons_zero, List.set_cons_succ]
  refine takeE 6 { dst := some 14, op := Op.load 27 (Operand.tmp 13), type := 27, pos := "zz_law_s6553a.go:30", after := #[{ on := 5, ground := Ground.data }], guard := none } (.agg (by8 id).toArray) rfl (by kernel_rfl) (by kernel_rfl) (by kernel_rfl) (by kernel_rfl) (fun _ _ _ h => h) (Or.inl ⟨by rfl, fun w hSw => load27 rfl rfl hl hSw.box⟩) hHeld ?_
  simp only [Act.put, List.setIfInBounds_toArray, List.set_cons_zero, List.set_cons_succ]
  refine stepE 7 { dst := some 15, op := Op.buildSlice 28 1 #[(0, Operand.tmp 14)], type := 28, pos := "zz_law_s6553a.go:30", after := #[{ on := 6, ground := Ground.data }], guard := none } rfl (by kernel_rfl) (fun K hK => ?_)
  rw [if_pos (by rfl)]
  refine wp_value (buildSlice_exec rfl hl rfl) ?_
  simp only [Act.put, List.setIfInBounds_toArray, List.set_cons_zero, List.set_cons_succ]
  have M2 := HS.out.1.alloc (.cells (by8 id).toArray 27)
  have hS2 := hHeld.grown (grown_alloc _ (.cells (by8 id).toArray 27) none) (by simp) (by simp)
  have hsrc2 := range_new w1.drew (by8 id) 27
  have hg2 : w1.drew.grownBy (w1.drew.alloc (.cells (by8 id).toArray 27)) none := grown_alloc _ _ _
  generalize hw2 : w1.drew.alloc (.cells (by8 id).toArray 27) = w2 at *
  refine hK _ _ (fun _ => hS2) ?_
  clear hK K hw2
  refine stepE 8 { dst := some 16, op := Op.call { callee := Callee.builtin Builtin.append, args := #[Operand.tmp 12, Operand.tmp 15], argTypes := #[28, 28] }, type := 28, pos := "zz_law_s6553a.go:30", after := #[{ on := 4, ground := Ground.data }, { on := 7, ground := Ground.data }], guard := none } rfl (by kernel_rfl) (fun K hK => ?_)
  refine step_append_caps rfl (.tmp 12) (.tmp 15) 28 rfl B 27 20 20 Yba.underlying28 Yba.row27 (by decide) _ _ _ _ rfl (M2.rt.own 4) _ 1 1 (by8 id) rfl (by rw [by8_length, hl]) (fun j u hj => by rw [Addr.add_mid]; exact hsrc2 j u hj) (by8_one _) (by decide) (by unfold maxLen; omega) (by omega) M2.rt.size ?_
  intro g cap' w3 hown hg hat hcap
  simp only [Act.put, List.setIfInBounds_toArray, List.set_cons_zero, List.set_cons_succ]
  have hne : (Value.slice (s 4).a (s 4).n (s 4).c).ownBlock ≠ some rb := fun e => by have := ((HR.out.own 4).lt _ e).1; have := HR.out.lt; omega
  have hS3 := hS2.grown hg hne (fun e => by have := ((HR.out.own 4).lt _ e).2; omega)
  have M3 := RtAt.app (k := 4) M2.rt (by decide) (by decide) ⟨some ⟨g, 0, none⟩, (s 4).n + 1, cap', (s 4).xs ++ by8 id⟩ hg hown (by rcases hat with h | h; exact .inl h.symm; exact .inr ⟨g, rfl, h⟩)
  refine hK _ _ (fun _ => hS3) ?_
  clear hK K
  refine stepE 9 { dst := some 17, op := Op.nilCheck (Operand.tmp 8), type := 0, pos := "zz_law_s6553a.go:30", after := #[{ on := 0, ground := Ground.data }, { on := 0, ground := Ground.phase }, { on := 1, ground := Ground.phase }, { on := 2, ground := Ground.phase }, { on := 3, ground := Ground.phase }, { on := 4, ground := Ground.phase }, { on := 5, ground := Ground.phase }, { on := 6, ground := Ground.phase }, { on := 7, ground := Ground.phase }, { on := 8, ground := Ground.phase }], guard := none } rfl (by kernel_rfl) (fun K hK => ?_)
  rw [if_pos (by rfl)]
  refine wp_same (.pointer (some ⟨rb, 0, none⟩)) (by go_simp) ?_
  simp only [Act.put, List.setIfInBounds_toArray, List.set_cons_zero, List.set_cons_succ]
  refine hK _ _ (fun _ => hS3) ?_
  clear hK K
  refine stepE 10 { dst := some 18, op := Op.fieldAddr 33 (Operand.tmp 17) 4, type := 0, pos := "zz_law_s6553a.go:30", after := #[{ on := 9, ground := Ground.data }, { on := 0, ground := Ground.phase }, { on := 1, ground := Ground.phase }, { on := 2, ground := Ground.phase }, { on := 3, ground := Ground.phase }, { on := 4, ground := Ground.phase }, { on := 5, ground := Ground.phase }, { on := 6, ground := Ground.phase }, { on := 7, ground := Ground.phase }, { on := 8, ground := Ground.phase }], guard := none } rfl (by kernel_rfl) (fun K hK => ?_)
  rw [if_pos (by rfl)]
  refine wp_same (.pointer (some ⟨rb, 4, none⟩)) (by go_simp) ?_
  simp only [Act.put, List.setIfInBounds_toArray, List.set_cons_zero, List.set_cons_succ]
  refine hK _ _ (fun _ => hS3) ?_
  clear hK K
  refine stepE 11 { dst := none, op := Op.store 28 (Operand.tmp 18) (Operand.tmp 16), type := 0, pos := "zz_law_s6553a.go:30", after := #[{ on := 10, ground := Ground.data }, { on := 8, ground := Ground.data }, { on := 8, ground := Ground.chain }, { on := 0, ground := Ground.phase }, { on := 1, ground := Ground.phase }, { on := 2, ground := Ground.phase }, { on := 3, ground := Ground.phase }, { on := 4, ground := Ground.phase }, { on := 5, ground := Ground.phase }, { on := 6, ground := Ground.phase }, { on := 7, ground := Ground.phase }, { on := 8, ground := Ground.phase }], guard := none } rfl (by kernel_rfl) (fun K hK => ?_)
  rw [if_pos (by rfl)]
  refine wp_skip' (store28 rfl rfl rfl hS3.cell (by rw [show w3.frozen? ⟨rb, 4, none⟩ = w2.frozen? ⟨rb, 4, none⟩ from World.frozen?_of_block (w := w2) (hg.block rb M2.rt.rbLt (Ne.symm hne))]; exact M2.rt.thaw 4)) ?_
  refine hK _ _ (fun h => by cases h) (doneE (by kernel_rfl) ?_ _)
  simp only [Act.put]
  have M4 := M2.trans M3
  have hQ4 : Src (w3.setCell ⟨rb, 4, none⟩ (.slice (some ⟨g, 0, none⟩) ((s 4).n + 1) cap')) ra (by8 l) := ((HQ.out.grown (grown_trans hg1 hg2) (fun _ _ => by simp)).grown hg (fun x hx => (HP.out x hx).2 4)).grown (setCell_grown _ _ _ _) (fun x hx => by have := (HP.out x hx).1; simp; omega)
  change Moved B rb idv w s (w3.setCell ⟨rb, 4, none⟩ (.slice (some ⟨g, 0, none⟩) ((s 4).n + 1) cap')) _ at M4
  generalize w3.setCell ⟨rb, 4, none⟩ (.slice (some ⟨g, 0, none⟩) ((s 4).n + 1) cap') = w4 at *
  have hs1 : ∀ k, k ≠ 4 → upd s 4 ⟨some ⟨g, 0, none⟩, (s 4).n + 1, cap', (s 4).xs ++ by8 id⟩ k = s k := fun k hk => upd_other _ _ hk
  have hs2 : upd s 4 ⟨some ⟨g, 0, none⟩, (s 4).n + 1, cap', (s 4).xs ++ by8 id⟩ 4 = _ := upd_same _ _ _
  generalize upd s 4 ⟨some ⟨g, 0, none⟩, (s 4).n + 1, cap', (s 4).xs ++ by8 id⟩ = s4 at *
  have H4 := hid (And.intro M4 (And.intro hQ4 (And.intro hs1 hs2)))
  clear hK K M3 hS3 hg hat hown hcap hS2 hsrc2 hHeld HS hne M2 hg2 hg1 M4 hQ4 hs1 hs2
  refine hK0 _ _ (wp_seq ?_)
  clear hK0 K0
  refine beginE [11] (fun w' : World => w'.cell? ⟨rb, 5, none⟩ = some (.slice (s4 5).a (s4 5).n (s4 5).c)) (by kernel_rfl) (H4.out.1.drew.rt.cell.2.2.2.2.2.1) (fun hHeld => ?_)
  refine takeE 0 { dst := some 19, op := Op.move (Operand.tmp 0), type := 29, pos := "zz_law_s6553a.go:31", after := #[], guard := none } (.pointer (some ⟨rb, 0, none⟩)) rfl (by kernel_rfl) (by kernel_rfl) (by kernel_rfl) (by kernel_rfl) (fun _ _ _ h => h) (Or.inl ⟨by rfl, by intro w hSw; clear hSw; go_simp⟩) hHeld ?_
  simp only [Act.put, List.setIfInBounds_toArray, List.set_cons_zero, List.set_cons_succ]
  refine takeE 1 { dst := some 20, op := Op.move (Operand.tmp 0), type := 29, pos := "zz_law_s6553a.go:31", after := #[], guard := none } (.pointer (some ⟨rb, 0, none⟩)) rfl (by kernel_rfl) (by kernel_rfl) (by kernel_rfl) (by kernel_rfl) (fun _ _ _ h => h) (Or.inl ⟨by rfl, by intro w hSw; clear hSw; go_simp⟩) hHeld ?_
  simp only [Act.put, List.setIfInBounds_toArray, List.set_cons_zero, List.set_cons_succ]
  refine takeE 2 { dst := some 21, op := Op.nilCheck (Operand.tmp 20), type := 0, pos := "zz_law_s6553a.go:31", after := #[{ on := 1, ground := Ground.data }], guard := none } (.pointer (some ⟨rb, 0, none⟩)) rfl (by kernel_rfl) (by kernel_rfl) (by kernel_rfl) (by kernel_rfl) (fun _ _ _ h => h) (Or.inl ⟨by rfl, by intro w hSw; clear hSw; go_simp⟩) hHeld ?_
  simp only [Act.put, List.setIfInBounds_toArray, List.set_cons_zero, List.set_cons_succ]
  refine takeE 3 { dst := some 22, op := Op.fieldAddr 33 (Operand.tmp 21) 5, type := 0, pos := "zz_law_s6553a.go:31", after := #[{ on := 2, ground := Ground.data }], guard := none } (.pointer (some ⟨rb, 5, none⟩)) rfl (by kernel_rfl) (by kernel_rfl) (by kernel_rfl) (by kernel_rfl) (fun _ _ _ h => h) (Or.inl ⟨by rfl, by intro w hSw; clear hSw; go_simp⟩) hHeld ?_
  simp only [Act.put, List.setIfInBounds_toArray, List.set_cons_zero, List.set_cons_succ]
  refine takeE 4 { dst := some 23, op := Op.load 31 (Operand.tmp 22), type := 31, pos := "zz_law_s6553a.go:31", after := #[{ on := 3, ground := Ground.data }], guard := none } (.slice (s4 5).a (s4 5).n (s4 5).c) rfl (by kernel_rfl) (by kernel_rfl) (by kernel_rfl) (by kernel_rfl) (fun _ _ _ h => h) (Or.inl ⟨by rfl, by intro w hSw; have hSc := hSw; clear hSw; go_simp⟩) hHeld ?_
  simp only [Act.put, List.setIfInBounds_toArray, List.set_cons_zero, List.set_cons_succ]
  refine takeE 5 { dst := some 24, op := Op.move (Operand.tmp 2), type := 25, pos := "zz_law_s6553a.go:31", after := #[], guard := none } (.slice ra l.length rc) rfl (by kernel_rfl) (by kernel_rfl) (by kernel_rfl) (by kernel_rfl) (fun _ _ _ h => h) (Or.inl ⟨by rfl, by intro w hSw; clear hSw; go_simp⟩) hHeld ?_
  simp only [Act.put, List.setIfInBounds_toArray, List.set_cons_zero, List.set_cons_succ]
  refine stepE 6 { dst := some 25, op := Op.call { callee := Callee.value (Operand.func 6), args := #[Operand.tmp 24], argTypes := #[25] }, type := 25, pos := "zz_law_s6553a.go:31", after := #[{ on := 5, ground := Ground.data }], guard := none } rfl (by kernel_rfl) (fun K hK => ?_)
  rw [if_pos (by rfl)]
  refine wp_enter 6 #[.slice ra l.length rc] (by go_simp) (clone_any ra l.length rc l w4.drew rfl H4.out.2.1 HN.out hln) ?_
  rintro e w5 ⟨a5, c5, rfl, hown5, hg5⟩
  refine ⟨_, rfl, ?_⟩
  simp only [Act.put, List.setIfInBounds_toArray, List.set_cons_zero, List.set_cons_succ]
  have hS5 := cell_grown hHeld hg5 (by simp)
  refine hK _ _ (fun _ => hS5) ?_
  clear hK K
  refine stepE 7 { dst := some 26, op := Op.buildSlice 31 1 #[(0, Operand.tmp 25)], type := 31, pos := "zz_law_s6553a.go:31", after := #[{ on := 6, ground := Ground.data }], guard := none } rfl (by kernel_rfl) (fun K hK => ?_)
  rw [if_pos (by rfl)]
  refine wp_value (buildSlice31 rfl rfl) ?_
  simp only [Act.put, List.setIfInBounds_toArray, List.set_cons_zero, List.set_cons_succ]
  have M6 : Moved B rb idv w s (w5.alloc (.cells [Value.slice a5 l.length c5].toArray 25)) s4 := (H4.out.1.drew.trans (Moved.grown H4.out.1.drew.rt hg5)).alloc _
  have hS6 := cell_grown hS5 (grown_alloc w5 (.cells [Value.slice a5 l.length c5].toArray 25) none) (by simp)
  have hsrc6 := range_new w5 [Value.slice a5 l.length c5] 25
  have hg6 : w5.grownBy (w5.alloc (.cells [Value.slice a5 l.length c5].toArray 25)) none := grown_alloc _ _ _
  have hown6 := hown5.alloc (.cells [Value.slice a5 l.length c5].toArray 25)
  generalize hw6 : w5.alloc (.cells [Value.slice a5 l.length c5].toArray 25) = w6 at *
  refine hK _ _ (fun _ => hS6) ?_
  clear hK K hw6
  refine stepE 8 { dst := some 27, op := Op.call { callee := Callee.builtin Builtin.append, args := #[Operand.tmp 23, Operand.tmp 26], argTypes := #[31, 31] }, type := 31, pos := "zz_law_s6553a.go:31", after := #[{ on := 4, ground := Ground.data }, { on := 7, ground := Ground.data }, { on := 6, ground := Ground.chain }], guard := none } rfl (by kernel_rfl) (fun K hK => ?_)
  refine step_append_caps rfl (.tmp 23) (.tmp 26) 31 rfl B 25 1 24 Yba.underlying31 Yba.row25 (by decide) _ _ _ _ rfl (M6.rt.own 5) _ 1 1 [Value.slice a5 l.length c5] rfl rfl (fun j u hj => by rw [Addr.add_mid]; exact hsrc6 j u hj) (fun u hu => by rw [List.mem_singleton.1 hu]; rfl) (by decide) (by rw [H4.out.2.2.1 5 (by decide)]; unfold maxLen; omega) (by rw [H4.out.2.2.1 5 (by decide)]; omega) M6.rt.size ?_
  intro g cap' w7 hown hg hat hcap
  simp only [Act.put, List.setIfInBounds_toArray, List.set_cons_zero, List.set_cons_succ]
  have hne : (Value.slice (s4 5).a (s4 5).n (s4 5).c).ownBlock ≠ some rb := fun e => by have := ((H4.out.1.rt.own 5).lt _ e).1; have := HR.out.lt; omega
  have hS7 := cell_grown hS6 hg hne
  have M7 := RtAt.app (k := 5) M6.rt (by decide) (by decide) ⟨some ⟨g, 0, none⟩, (s4 5).n + 1, cap', (s4 5).xs ++ [Value.slice a5 l.length c5]⟩ hg hown (by rcases hat with h | h; exact .inl h.symm; exact .inr ⟨g, rfl, h⟩)
  refine hK _ _ (fun _ => hS7) ?_
  clear hK K
  refine stepE 9 { dst := some 28, op := Op.nilCheck (Operand.tmp 19), type := 0, pos := "zz_law_s6553a.go:31", after := #[{ on := 0, ground := Ground.data }, { on := 0, ground := Ground.phase }, { on := 1, ground := Ground.phase }, { on := 2, ground := Ground.phase }, { on := 3, ground := Ground.phase }, { on := 4, ground := Ground.phase }, { on := 5, ground := Ground.phase }, { on := 6, ground := Ground.phase }, { on := 7, ground := Ground.phase }, { on := 8, ground := Ground.phase }], guard := none } rfl (by kernel_rfl) (fun K hK => ?_)
  rw [if_pos (by rfl)]
  refine wp_same (.pointer (some ⟨rb, 0, none⟩)) (by go_simp) ?_
  simp only [Act.put, List.setIfInBounds_toArray, List.set_cons_zero, List.set_cons_succ]
  refine hK _ _ (fun _ => hS7) ?_
  clear hK K
  refine stepE 10 { dst := some 29, op := Op.fieldAddr 33 (Operand.tmp 28) 5, type := 0, pos := "zz_law_s6553a.go:31", after := #[{ on := 9, ground := Ground.data }, { on := 0, ground := Ground.phase }, { on := 1, ground := Ground.phase }, { on := 2, ground := Ground.phase }, { on := 3, ground := Ground.phase }, { on := 4, ground := Ground.phase }, { on := 5, ground := Ground.phase }, { on := 6, ground := Ground.phase }, { on := 7, ground := Ground.phase }, { on := 8, ground := Ground.phase }], guard := none } rfl (by kernel_rfl) (fun K hK => ?_)
  rw [if_pos (by rfl)]
  refine wp_same (.pointer (some ⟨rb, 5, none⟩)) (by go_simp) ?_
  simp only [Act.put, List.setIfInBounds_toArray, List.set_cons_zero, List.set_cons_succ]
  refine hK _ _ (fun _ => hS7) ?_
  clear hK K
  refine stepE 11 { dst := none, op := Op.store 31 (Operand.tmp 29) (Operand.tmp 27), type := 0, pos := "zz_law_s6553a.go:31", after := #[{ on := 10, ground := Ground.data }, { on := 8, ground := Ground.data }, { on := 8, ground := Ground.chain }, { on := 0, ground := Ground.phase }, { on := 1, ground := Ground.phase }, { on := 2, ground := Ground.phase }, { on := 3, ground := Ground.phase }, { on := 4, ground := Ground.phase }, { on := 5, ground := Ground.phase }, { on := 6, ground := Ground.phase }, { on := 7, ground := Ground.phase }, { on := 8, ground := Ground.phase }], guard := none } rfl (by kernel_rfl) (fun K hK => ?_)
  rw [if_pos (by rfl)]
  refine wp_skip' (store31 rfl rfl rfl hS7 (by rw [show w7.frozen? ⟨rb, 5, none⟩ = w6.frozen? ⟨rb, 5, none⟩ from World.frozen?_of_block (w := w6) (hg.block rb M6.rt.rbLt (Ne.symm hne))]; exact M6.rt.thaw 5)) ?_
  refine hK _ _ (fun h => by cases h) (doneE (by kernel_rfl) ?_ _)
  simp only [Act.put]
  have D := hid (call_done HR.out H4.out.1 H4.out.2.2.1 H4.out.2.2.2 hown5 hg5 hown6 M6 hg6 hg M7)
  clear hK K M7 hS7 hg hat hown hcap hS6 hsrc6 hHeld hne M6 hg6 hS5 hown5 hown6 hg5
  change Hid (CallTo B rb idv w s id l (w7.setCell ⟨rb, 5, none⟩ (.slice (some ⟨g, 0, none⟩) ((s4 5).n + 1) cap')) _ _ _) at D
  generalize w7.setCell ⟨rb, 5, none⟩ (.slice (some ⟨g, 0, none⟩) ((s4 5).n + 1) cap') = w8 at *
  have hq := neq166 w8
  go_wp2
  go_end0
  clear hq
  go_wp2
  go_end0
  exact ⟨rfl, _, _, _, D.out⟩

end Go.Proofs.Ybulkeero
