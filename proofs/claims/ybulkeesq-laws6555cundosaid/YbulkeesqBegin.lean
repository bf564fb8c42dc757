/- begin: a container is opened. -/
import Derived.Test.YbulkeesqKeep
namespace Go.Proofs.Ybulkeesq
open Go.RowKit Go.Joins

/-- A container's cells, zero. -/
def zeroO : List Value := [.int .u8 0, .bool false, .int .u32 0, .int .i64 0, .slice none 0 0]
theorem zeroO_one : ∀ u ∈ zeroO, u.oneCell' = true := by
  intro u hu
  simp only [zeroO, List.mem_cons, List.not_mem_nil, or_false] at hu
  rcases hu with rfl | rfl | rfl | rfl | rfl <;> rfl
theorem news_zeroO (w : World) : ∀ j u, zeroO[j]? = some u → (w.alloc (.cells zeroO.toArray 49)).cell? ((⟨w.heap.size, 0, none⟩ : Addr).add j) = some u := by
  intro j u hj
  rw [Go.WideShapes.add_plain, Nat.zero_add, cell_of_block (heap_new w _)]
  simpa using hj
theorem new_cells5 {w : World} {base g n c : Nat} {xs : List Value} (h : w.ownsRow base 49 5 (.slice (some ⟨g, 0, none⟩) (n + 1) c) (n + 1) (xs ++ zeroO)) :
    w.cell? ⟨g, n * 5, none⟩ = some (.int .u8 0) ∧ w.frozen? ⟨g, n * 5, none⟩ = false ∧ w.cell? ⟨g, n * 5 + 1, none⟩ = some (.bool false) ∧ w.frozen? ⟨g, n * 5 + 1, none⟩ = false ∧ w.cell? ⟨g, n * 5 + 2, none⟩ = some (.int .u32 0) ∧ w.frozen? ⟨g, n * 5 + 2, none⟩ = false ∧ w.cell? ⟨g, n * 5 + 3, none⟩ = some (.int .i64 0) ∧ w.frozen? ⟨g, n * 5 + 3, none⟩ = false := by
  have hl : xs.length = n * 5 := by
    have := h.1
    simp only [List.length_append, zeroO, List.length_cons, List.length_nil] at this
    omega
  have k : ∀ j, (hj : j < 5) → w.cell? ⟨g, n * 5 + j, none⟩ = some (zeroO[j]'hj) ∧ w.frozen? ⟨g, n * 5 + j, none⟩ = false := by
    intro j hj
    refine ⟨?_, h.frozenAt _⟩
    rw [h.cellAt _ (by omega), List.getElem?_append_right (by omega), hl, Nat.add_sub_cancel_left]
    rw [List.getElem?_eq_getElem (by exact hj)]
  exact ⟨(k 0 (by omega)).1, (k 0 (by omega)).2, (k 1 (by omega)).1, (k 1 (by omega)).2, (k 2 (by omega)).1, (k 2 (by omega)).2, (k 3 (by omega)).1, (k 3 (by omega)).2⟩

/-- A Builder while a container is being opened. -/
structure Opening (bb : Nat) (W0 w : World) (s : St) (C : Array Value) (g n c : Nat) (xs : List Value) : Prop where
  blk : w.heap[bb]? = some (.cells C 35 (0, 0))
  v : Row w (bb + 1) 46 12 s.av s.nv s.cv
  o : w.ownsRow (bb + 1) 49 5 (.slice (some ⟨g, 0, none⟩) n c) n xs
  i : Row w (bb + 1) 46 12 s.ai s.ni s.ci
  d : Row w (bb + 1) 46 12 s.ad s.nd s.cd
  x : Row w (bb + 1) 5 1 s.ax s.nx s.cx
  below : Below bb W0 w
theorem Opening.drewN {bb : Nat} {W0 w : World} {s : St} {C : Array Value} {g n c : Nat} {xs : List Value} (h : Opening bb W0 w s C g n c xs) (m : Nat) : Opening bb W0 (w.drewN m) s C g n c xs := ⟨h.blk, h.v, h.o, h.i, h.d, h.x, below_drewN h.below m⟩
theorem Opening.own {bb : Nat} {W0 w : World} {s : St} {C : Array Value} {g n c : Nat} {xs : List Value} (h : Opening bb W0 w s C g n c xs) (i : Nat) (v : Value) : Opening bb W0 (w.setCell ⟨bb, i, none⟩ v) s (C.setIfInBounds i v) g n c xs :=
  ⟨by rw [block_setCell h.blk], h.v.other (fun x hx => by have := (h.v.lt hx).1; show _ ≠ bb; omega) v, owns_other h.o (fun x hx => by have := (owns_lt h.o hx).1; show _ ≠ bb; omega) v, h.i.other (fun x hx => by have := (h.i.lt hx).1; show _ ≠ bb; omega) v, h.d.other (fun x hx => by have := (h.d.lt hx).1; show _ ≠ bb; omega) v, h.x.other (fun x hx => by have := (h.x.lt hx).1; show _ ≠ bb; omega) v, h.below.setCell (p := ⟨bb, i, none⟩) (Nat.le_refl _) v⟩
theorem Opening.put {bb : Nat} {W0 w : World} {s : St} {C : Array Value} {g n c : Nat} {xs : List Value} (h : Opening bb W0 w s C g n c xs) (j : Nat) (v : Value) : Opening bb W0 (w.setCell ⟨g, j, none⟩ v) s C g n c (xs.set j v) := by
  obtain ⟨cg, tg⟩ := owns_type h.o rfl
  have hg := (owns_lt h.o rfl).1
  have hne : bb ≠ g := by simp only at hg; omega
  exact ⟨by rw [Below.heap_setCell _ _ _ _ hne]; exact h.blk, h.v.other (fun x hx => by obtain ⟨c2, t2⟩ := h.v.type hx; exact types_apart t2 tg (by decide)) v, (h.o.stored j v).1, h.i.other (fun x hx => by obtain ⟨c2, t2⟩ := h.i.type hx; exact types_apart t2 tg (by decide)) v, h.d.other (fun x hx => by obtain ⟨c2, t2⟩ := h.d.type hx; exact types_apart t2 tg (by decide)) v, h.x.other (fun x hx => by obtain ⟨c2, t2⟩ := h.x.type hx; exact types_apart t2 tg (by decide)) v, h.below.setCell (p := ⟨g, j, none⟩) (by simp only at hg ⊢; omega) v⟩

/-- Behind the append. -/
theorem Opening.start {bb g n m c : Nat} {W0 W w1 : World} {s : St} {xs : List Value} (h : Inv bb W s) (hB : Below bb W0 W) (hg : W.grownBy w1 (Value.slice s.ao m s.co).ownBlock) (hown : w1.ownsRow (bb + 1) 49 5 (.slice (some ⟨g, 0, none⟩) n c) n xs) : Opening bb W0 w1 s s.cells g n c xs := by
  have ne : ∀ y : Addr, (∀ x, s.ao = some x → x.block ≠ y.block) → (Value.slice s.ao m s.co).ownBlock ≠ some y.block := by
    intro y hy e
    obtain ⟨x, hx, e2⟩ := own_block.1 e
    exact hy x hx e2
  exact ⟨Inv.later2 h hg h.rows.ne.2.1, h.rows.v.grown hg (fun y hy => ne y fun x hx => by obtain ⟨c1, t1⟩ := owns_type h.rows.o hx; obtain ⟨c2, t2⟩ := h.rows.v.type hy; exact types_apart t1 t2 (by decide)), hown,
    h.rows.i.grown hg (fun y hy => ne y fun x hx => by obtain ⟨c1, t1⟩ := owns_type h.rows.o hx; obtain ⟨c2, t2⟩ := h.rows.i.type hy; exact types_apart t1 t2 (by decide)),
    h.rows.d.grown hg (fun y hy => ne y fun x hx => by obtain ⟨c1, t1⟩ := owns_type h.rows.o hx; obtain ⟨c2, t2⟩ := h.rows.d.type hy; exact types_apart t1 t2 (by decide)),
    h.rows.x.grown hg (fun y hy => ne y fun x hx => by obtain ⟨c1, t1⟩ := owns_type h.rows.o hx; obtain ⟨c2, t2⟩ := h.rows.x.type hy; exact types_apart t1 t2 (by decide)),
    hB.grown hg (Nat.le_of_lt h.lt) (fun k e => by obtain ⟨x, hx, e2⟩ := own_block.1 e; have := (owns_lt h.rows.o hx).1; omega)⟩

theorem opened_list (ys : List Nat) (ni : Nat) : (((((openCells ys ++ zeroO).set (ys.length * 5) (.int .u8 6)).set (ys.length * 5 + 2) (.int .u32 0)).set (ys.length * 5 + 3) (.int .i64 0)).set (ys.length * 5 + 1) (.bool true)).set (ys.length * 5 + 3) (.int .i64 ni) = openCells (ys ++ [ni]) := by
  have hl := openCells_length ys
  have e : ∀ (j : Nat) (v : Value) (l : List Value), (openCells ys ++ l).set (ys.length * 5 + j) v = openCells ys ++ l.set j v := by
    intro j v l
    rw [List.set_append_right _ _ (by omega), hl, Nat.add_sub_cancel_left]
  have e0 : ∀ (v : Value) (l : List Value), (openCells ys ++ l).set (ys.length * 5) v = openCells ys ++ l.set 0 v := fun v l => e 0 v l
  rw [e0, e, e, e, e, openCells_append]
  rfl

/-- .. and when all its fields are in. -/
theorem Opening.done {bb g c : Nat} {W0 W1 w : World} {s : St} (h : Opening bb W0 w s (s.cells.setIfInBounds 2 (.slice (some ⟨g, 0, none⟩) (s.sts.length + 1) c)) g (s.sts.length + 1) c (openCells (s.sts ++ [s.ni]))) (h0 : Rows5 bb W1 s) :
    Inv bb w { s with ao := some ⟨g, 0, none⟩, sts := s.sts ++ [s.ni], co := c, old := [] } := by
  refine ⟨?_, h.v, ?_, h.i, h.d, h.x, h0.vi, h0.vd, h0.id, ?_, ?_⟩
  · rw [h.blk]; simp [St.cells]
  · simpa using h.o
  · intro y hy
    rcases List.mem_append.1 hy with hy | hy
    · exact h0.le y hy
    · simp only [List.mem_singleton] at hy; subst hy; exact Nat.le_refl _
  · simp only [List.pairwise_append, List.pairwise_singleton, List.mem_singleton, true_and]
    exact ⟨h0.up, fun a ha b hb => by subst hb; exact h0.le a ha⟩
/-- What 'take' does to the Builder. -/
def TakeTo (s s1 : St) (b : Bool) : Prop := (b = false ∧ s1 = { s with tr := true }) ∨ (b = true ∧ s1 = { s with tk := s.tk + 1 })
def TakePost (bb : Nat) (s : St) (w : World) (e : Ending) (w' : World) : Prop := ∃ b s1, e = .returned (.bool b) ∧ Inv bb w' s1 ∧ Below bb w w' ∧ TakeTo s s1 b
theorem take_post (bb : Nat) (s : St) (w : World) (h : Inv bb w s) (hk0 : 0 ≤ s.tk) (hk1 : s.tk ≤ 100000) : Calls Yba.prog 20 #[.pointer (some ⟨bb, 0, none⟩)] w (TakePost bb s w) := by
  refine (take_any bb s w h hk0 hk1).mono fun e w' k => ?_
  obtain ⟨hO, ⟨he, hI⟩ | ⟨he, hI⟩⟩ := k
  · exact ⟨false, _, he, hI, hO.below, .inl ⟨rfl, rfl⟩⟩
  · exact ⟨true, _, he, hI, hO.below, .inr ⟨rfl, rfl⟩⟩

/-- What 'begin' does to the Builder. -/
def BeginTo (s s' : St) : Prop := s' = { s with tr := true } ∨ ∃ g c, s.co ≤ c ∧ s' = { s with tk := s.tk + 1, ao := some ⟨g, 0, none⟩, sts := s.sts ++ [s.ni], co := c, old := [] }
def BeginPost (bb : Nat) (s : St) (w : World) (e : Ending) (w' : World) : Prop := ∃ b s', e = .returned (.bool b) ∧ Inv bb w' s' ∧ Below bb w w' ∧ BeginTo s s'

set_option maxHeartbeats 4000000 in
theorem begin_any (bb : Nat) (s : St) (w : World) (h : Inv bb w s) (hk0 : 0 ≤ s.tk) (hk1 : s.tk ≤ 100000) (hl : s.sts.length ≤ 100000) (h0 : s.old = []) :
    Calls Yba.prog 23 #[.pointer (some ⟨bb, 0, none⟩), .int .u8 6, .int .u32 0] w (BeginPost bb s w) := by
  have HI := hid h
  clear h
  go_enter Yba.func23, Yba.ntmps23
  have hwl : IntKind.i64.wrap (s.sts.length : Int) = (s.sts.length : Int) := IntWalk.i64_in _ ⟨by omega, by omega⟩
  have hlt : (s.sts.length : Int) < (s.sts.length : Int) + 1 := by omega
  go_wp2_with (first
    | (go_at_call 20; refine (take_post bb s w HI.out hk0 hk1).mono ?_; rintro e w1 ⟨b, s1, rfl, hI1, hB1, (⟨rfl, rfl⟩ | ⟨rfl, rfl⟩)⟩ <;> (have c2 : w1.cell? ⟨bb, 2, none⟩ = some (.slice s.ao s.sts.length s.co) := hI1.cell 2; have HO1 : Hid (w1.ownsRow (bb + 1) 49 5 (.slice s.ao s.sts.length s.co) s.sts.length (openCells s.sts)) := (by have := hI1.rows.o; simp only [h0, List.append_nil] at this; exact this); have hsz := hI1.lt; have HI1 := hid hI1; have HB1 := hid hB1; clear hI1 hB1))
    | (at_builtin; refine wpList_append_caps _ rfl (.tmp 15) (.tmp 17) 28 rfl (bb + 1) 49 5 40 Yba.underlying28 Yba.info49 (by decide) s.ao s.sts.length s.co (openCells s.sts) rfl (by exact HO1.out.alloc _) ⟨w1.heap.size, 0, none⟩ 1 1 zeroO rfl rfl (by exact news_zeroO w1) zeroO_one (by decide) (by unfold maxLen; omega) (by omega) (by simp; omega) ?_; intro g2 cap2 w2 hown2 hg2 hat2 hcap2; obtain ⟨z0, y0, z1, y1, z2, y2, z3, y3⟩ := new_cells5 hown2; have hS := Opening.start (HI1.out.alloc _) (HB1.out.alloc (Nat.le_of_lt hsz) _) hg2 hown2; have hgb : bb < g2 := (owns_lt hown2 rfl).1; have d2 : w2.cell? ⟨bb, 2, none⟩ = some (.slice s.ao s.sts.length s.co) := cell_of_block hS.blk 2; have d3 : w2.cell? ⟨bb, 3, none⟩ = some (.slice none 0 0) := cell_of_block hS.blk 3; have d5 : w2.cell? ⟨bb, 5, none⟩ = some (.slice s.ai s.ni s.ci) := cell_of_block hS.blk 5; have fr2 := unfrozen_of_block hS.blk 2; have HS := hid hS; clear hS hown2 hg2 hat2))
  · go_ret
    exact ⟨false, _, rfl, HI1.out, HB1.out, .inl rfl⟩
  · go_quiet (fail)
    go_wp2
    go_ret
    have hF := ((((((HS.out.own 2 (.slice (some ⟨g2, 0, none⟩) (s.sts.length + 1) cap2)).drewN nq).put (s.sts.length * 5) (.int .u8 6)).put (s.sts.length * 5 + 2) (.int .u32 0)).put (s.sts.length * 5 + 3) (.int .i64 0)).put (s.sts.length * 5 + 1) (.bool true)).put (s.sts.length * 5 + 3) (.int .i64 s.ni)
    rw [opened_list] at hF
    exact ⟨true, _, rfl, hF.done HI1.out.rows, hF.below, .inr ⟨g2, cap2, hcap2, rfl⟩⟩
end Go.Proofs.Ybulkeesq
