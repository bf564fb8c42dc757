/- next: what its stores do to the Builder's rows. -/
import Derived.Test.YbulkeesqTake
import Derived.Deep.RegionLaw
import Derived.Deep.CutRange
import Derived.BigRegion
import Derived.WalkLawsBesides
namespace Go.Proofs.Ybulkeesq
open Go.RowKit Go.Joins

/-- A float is stored as any other one-cell value is (the walk's own set lacks this row). -/
theorem run_store_float (P : Program) (w : World) (a : Addr) (m : Mode) (k : FloatKind) (x : Nat) : (store a (.float k x) m).run P w = stored P w a (.float k x) m := run_store P w a _ m rfl
attribute [local go_sem] run_store_float

/-- A Value's cells, zero. -/
def zeroV : List Value := [.int .u8 0, .int .u8 0, .int .i16 0, .int .u32 0, .float .f32 0, .int .u16 0, .float .f64 0, .int .u64 0, .bool false, .slice none 0 0, .slice none 0 0, .slice none 0 0]
theorem zeroV_one : ∀ u ∈ zeroV, u.oneCell' = true := by
  intro u hu
  simp only [zeroV, List.mem_cons, List.not_mem_nil, or_false] at hu
  rcases hu with rfl | rfl | rfl | rfl | rfl | rfl | rfl | rfl | rfl | rfl | rfl | rfl <;> rfl

/-- The new element's cells. -/
theorem new_cells {w : World} {base g n c : Nat} {xs : List Value} (h : w.ownsRow base 46 12 (.slice (some ⟨g, 0, none⟩) (n + 1) c) (n + 1) (xs ++ zeroV)) : ∀ j, (hj : j < 12) → w.cell? ⟨g, n * 12 + j, none⟩ = some (zeroV[j]'hj) ∧ w.frozen? ⟨g, n * 12 + j, none⟩ = false := by
  intro j hj
  have hl : xs.length = n * 12 := by
    have := h.1
    simp only [List.length_append, zeroV, List.length_cons, List.length_nil] at this
    omega
  refine ⟨?_, h.frozenAt _⟩
  rw [h.cellAt _ (by omega), List.getElem?_append_right (by omega), hl, Nat.add_sub_cancel_left]
  rw [List.getElem?_eq_getElem (by exact hj)]

theorem new_cells12 {w : World} {base g n c : Nat} {xs : List Value} (h : w.ownsRow base 46 12 (.slice (some ⟨g, 0, none⟩) (n + 1) c) (n + 1) (xs ++ zeroV)) :
    w.cell? ⟨g, n * 12, none⟩ = some (.int .u8 0) ∧ w.frozen? ⟨g, n * 12, none⟩ = false ∧ w.cell? ⟨g, n * 12 + 1, none⟩ = some (.int .u8 0) ∧ w.frozen? ⟨g, n * 12 + 1, none⟩ = false ∧ w.cell? ⟨g, n * 12 + 2, none⟩ = some (.int .i16 0) ∧ w.frozen? ⟨g, n * 12 + 2, none⟩ = false ∧ w.cell? ⟨g, n * 12 + 3, none⟩ = some (.int .u32 0) ∧ w.frozen? ⟨g, n * 12 + 3, none⟩ = false ∧ w.cell? ⟨g, n * 12 + 4, none⟩ = some (.float .f32 0) ∧ w.frozen? ⟨g, n * 12 + 4, none⟩ = false ∧ w.cell? ⟨g, n * 12 + 5, none⟩ = some (.int .u16 0) ∧ w.frozen? ⟨g, n * 12 + 5, none⟩ = false ∧ w.cell? ⟨g, n * 12 + 6, none⟩ = some (.float .f64 0) ∧ w.frozen? ⟨g, n * 12 + 6, none⟩ = false ∧ w.cell? ⟨g, n * 12 + 7, none⟩ = some (.int .u64 0) ∧ w.frozen? ⟨g, n * 12 + 7, none⟩ = false ∧ w.cell? ⟨g, n * 12 + 8, none⟩ = some (.bool false) ∧ w.frozen? ⟨g, n * 12 + 8, none⟩ = false ∧ w.cell? ⟨g, n * 12 + 9, none⟩ = some (.slice none 0 0) ∧ w.frozen? ⟨g, n * 12 + 9, none⟩ = false ∧ w.cell? ⟨g, n * 12 + 10, none⟩ = some (.slice none 0 0) ∧ w.frozen? ⟨g, n * 12 + 10, none⟩ = false ∧ w.cell? ⟨g, n * 12 + 11, none⟩ = some (.slice none 0 0) ∧ w.frozen? ⟨g, n * 12 + 11, none⟩ = false := by
  have k := new_cells h
  exact ⟨(k 0 (by omega)).1, (k 0 (by omega)).2, (k 1 (by omega)).1, (k 1 (by omega)).2, (k 2 (by omega)).1, (k 2 (by omega)).2, (k 3 (by omega)).1, (k 3 (by omega)).2, (k 4 (by omega)).1, (k 4 (by omega)).2, (k 5 (by omega)).1, (k 5 (by omega)).2, (k 6 (by omega)).1, (k 6 (by omega)).2, (k 7 (by omega)).1, (k 7 (by omega)).2, (k 8 (by omega)).1, (k 8 (by omega)).2, (k 9 (by omega)).1, (k 9 (by omega)).2, (k 10 (by omega)).1, (k 10 (by omega)).2, (k 11 (by omega)).1, (k 11 (by omega)).2⟩
theorem heap_new (w : World) (o : Obj) : (w.alloc o).heap[w.heap.size]? = some o := by
  show (w.heap.push o)[w.heap.size]? = _
  simp
theorem news_zero (w : World) : ∀ j u, zeroV[j]? = some u → (w.alloc (.cells zeroV.toArray 46)).cell? ((⟨w.heap.size, 0, none⟩ : Addr).add j) = some u := by
  intro j u hj
  rw [Go.WideShapes.add_plain, Nat.zero_add, cell_of_block (heap_new w _)]
  simpa using hj

/-- The Builder's block behind an append onto one of its rows. -/
theorem Inv.later {bb n c : Nat} {w w1 : World} {s : St} {o : Obj} {a : Option Addr} (h : Inv bb w s) (hg : ((w.alloc o).drew).grownBy w1 (Value.slice a n c).ownBlock) (ha : ∀ x, a = some x → x.block ≠ bb) : w1.heap[bb]? = some (.cells s.cells 35 (0, 0)) := by
  rw [hg.block bb (by have := h.lt; show bb < (w.alloc o).heap.size; simp; omega) (fun e => by obtain ⟨x, hx, e2⟩ := own_block.1 e.symm; exact ha x hx e2)]
  show (w.alloc o).heap[bb]? = _
  rw [Below.heap_alloc _ _ _ h.lt]; exact h.blk

theorem Inv.later2 {bb n c : Nat} {w w1 : World} {s : St} {a : Option Addr} (h : Inv bb w s) (hg : w.grownBy w1 (Value.slice a n c).ownBlock) (ha : ∀ x, a = some x → x.block ≠ bb) : w1.heap[bb]? = some (.cells s.cells 35 (0, 0)) := by
  rw [hg.block bb h.lt (fun e => by obtain ⟨x, hx, e2⟩ := own_block.1 e.symm; exact ha x hx e2)]
  exact h.blk

/-- The rows behind an append onto 'values'. -/
theorem Rows5.appV {bb : Nat} {W w1 : World} {s : St} {g n c : Nat} {xs : List Value} (h : Rows5 bb W s) (hg : W.grownBy w1 (Value.slice s.av s.nv s.cv).ownBlock) (hown : w1.ownsRow (bb + 1) 46 12 (.slice (some ⟨g, 0, none⟩) n c) n xs) (hone : ∀ u ∈ xs, u.oneCell' = true) (hat : s.av = some ⟨g, 0, none⟩ ∨ W.heap.size ≤ g) :
    Rows5 bb w1 { s with av := some ⟨g, 0, none⟩, nv := n, cv := c } := by
  have row : ∀ x, s.av = some x → (Value.slice s.av s.nv s.cv).ownBlock = some x.block := fun x hx => own_block.2 ⟨x, hx, rfl⟩
  have ne : ∀ y : Addr, (∀ x, s.av = some x → x.block ≠ y.block) → (Value.slice s.av s.nv s.cv).ownBlock ≠ some y.block := by
    intro y hy e
    obtain ⟨x, hx, e2⟩ := own_block.1 e
    exact hy x hx e2
  have far : ∀ (b : Option Addr), Apart s.av b → (∀ y, b = some y → y.block < W.heap.size) → Apart (some ⟨g, 0, none⟩) b := by
    intro b hb hlt x y hx hy e
    cases hx
    rcases hat with h1 | h1
    · exact hb _ y h1 hy e
    · have := hlt y hy; simp only at e; omega
  exact ⟨⟨xs, hown, hone⟩, owns_grown h.o hg (fun y hy => ne y fun x hx => by obtain ⟨c1, t1⟩ := h.v.type hx; obtain ⟨c2, t2⟩ := owns_type h.o hy; exact types_apart t1 t2 (by decide)),
    h.i.grown hg (fun y hy => ne y fun x hx => h.vi x y hx hy), h.d.grown hg (fun y hy => ne y fun x hx => h.vd x y hx hy),
    h.x.grown hg (fun y hy => ne y fun x hx => by obtain ⟨c1, t1⟩ := h.v.type hx; obtain ⟨c2, t2⟩ := h.x.type hy; exact types_apart t1 t2 (by decide)),
    far _ h.vi (fun y hy => (h.i.lt hy).2), far _ h.vd (fun y hy => (h.d.lt hy).2), h.id, h.le, h.up⟩
/-- .. onto 'items'. -/
theorem Rows5.appI {bb : Nat} {W w1 : World} {s : St} {g n c : Nat} {xs : List Value} (h : Rows5 bb W s) (hg : W.grownBy w1 (Value.slice s.ai s.ni s.ci).ownBlock) (hown : w1.ownsRow (bb + 1) 46 12 (.slice (some ⟨g, 0, none⟩) n c) n xs) (hone : ∀ u ∈ xs, u.oneCell' = true) (hat : s.ai = some ⟨g, 0, none⟩ ∨ W.heap.size ≤ g) (hn : s.ni ≤ n) :
    Rows5 bb w1 { s with ai := some ⟨g, 0, none⟩, ni := n, ci := c } := by
  have ne : ∀ y : Addr, (∀ x, s.ai = some x → x.block ≠ y.block) → (Value.slice s.ai s.ni s.ci).ownBlock ≠ some y.block := by
    intro y hy e
    obtain ⟨x, hx, e2⟩ := own_block.1 e
    exact hy x hx e2
  have far : ∀ (b : Option Addr), Apart s.ai b → (∀ y, b = some y → y.block < W.heap.size) → Apart (some ⟨g, 0, none⟩) b := by
    intro b hb hlt x y hx hy e
    cases hx
    rcases hat with h1 | h1
    · exact hb _ y h1 hy e
    · have := hlt y hy; simp only at e; omega
  exact ⟨h.v.grown hg (fun y hy => ne y fun x hx => h.vi.symm x y hx hy), owns_grown h.o hg (fun y hy => ne y fun x hx => by obtain ⟨c1, t1⟩ := h.i.type hx; obtain ⟨c2, t2⟩ := owns_type h.o hy; exact types_apart t1 t2 (by decide)),
    ⟨xs, hown, hone⟩, h.d.grown hg (fun y hy => ne y fun x hx => h.id x y hx hy),
    h.x.grown hg (fun y hy => ne y fun x hx => by obtain ⟨c1, t1⟩ := h.i.type hx; obtain ⟨c2, t2⟩ := h.x.type hy; exact types_apart t1 t2 (by decide)),
    (far _ h.vi.symm (fun y hy => (h.v.lt hy).2)).symm, h.vd, far _ h.id (fun y hy => (h.d.lt hy).2), fun y hy => Nat.le_trans (h.le y hy) hn, h.up⟩
/-- A cell of 'values' is written. -/
theorem Rows5.putV {bb : Nat} {w : World} {s : St} {g j : Nat} (h : Rows5 bb w s) (hs : s.av = some ⟨g, 0, none⟩) (v : Value) (hv : v.oneCell' = true) : Rows5 bb (w.setCell ⟨g, j, none⟩ v) s := by
  obtain ⟨cg, tg⟩ := h.v.type hs
  refine ⟨?_, owns_other h.o (fun x hx => by obtain ⟨c2, t2⟩ := owns_type h.o hx; exact types_apart t2 tg (by decide)) v, h.i.other (p := ⟨g, j, none⟩) (fun x hx => (h.vi _ x hs hx).symm) v, h.d.other (p := ⟨g, j, none⟩) (fun x hx => (h.vd _ x hs hx).symm) v,
    h.x.other (fun x hx => by obtain ⟨c2, t2⟩ := h.x.type hx; exact types_apart t2 tg (by decide)) v, h.vi, h.vd, h.id, h.le, h.up⟩
  have := h.v
  rw [hs] at this ⊢
  exact this.put v hv
/-- A cell of 'items' is written. -/
theorem Rows5.putI {bb : Nat} {w : World} {s : St} {g j : Nat} (h : Rows5 bb w s) (hs : s.ai = some ⟨g, 0, none⟩) (v : Value) (hv : v.oneCell' = true) : Rows5 bb (w.setCell ⟨g, j, none⟩ v) s := by
  obtain ⟨cg, tg⟩ := h.i.type hs
  refine ⟨h.v.other (p := ⟨g, j, none⟩) (fun x hx => h.vi x ⟨g, 0, none⟩ hx hs) v, owns_other h.o (fun x hx => by obtain ⟨c2, t2⟩ := owns_type h.o hx; exact types_apart t2 tg (by decide)) v, ?_, h.d.other (p := ⟨g, j, none⟩) (fun x hx => (h.id _ x hs hx).symm) v,
    h.x.other (fun x hx => by obtain ⟨c2, t2⟩ := h.x.type hx; exact types_apart t2 tg (by decide)) v, h.vi, h.vd, h.id, h.le, h.up⟩
  have := h.i
  rw [hs] at this ⊢
  exact this.put v hv

/-- The slot that 'next' hands out: an element of 'values' or of 'items'. -/
def Slot (s : St) (g k : Nat) : Prop := (s.av = some ⟨g, 0, none⟩ ∧ k < s.nv) ∨ (s.ai = some ⟨g, 0, none⟩ ∧ k < s.ni)
theorem Slot.rows {bb : Nat} {w : World} {s : St} {g k : Nat} (hs : Slot s g k) (h : Rows5 bb w s) (j : Nat) (v : Value) (hv : v.oneCell' = true) : Rows5 bb (w.setCell ⟨g, j, none⟩ v) s := by
  rcases hs with ⟨hs, _⟩ | ⟨hs, _⟩
  · exact h.putV hs v hv
  · exact h.putI hs v hv
theorem Slot.lt {bb : Nat} {w : World} {s : St} {g k : Nat} (hs : Slot s g k) (h : Rows5 bb w s) : bb < g ∧ g < w.heap.size := by
  rcases hs with ⟨hs, _⟩ | ⟨hs, _⟩
  · have := h.v.lt hs; exact ⟨this.1, this.2⟩
  · have := h.i.lt hs; exact ⟨this.1, this.2⟩
theorem Slot.cell {bb : Nat} {w : World} {s : St} {g k : Nat} (hs : Slot s g k) (h : Rows5 bb w s) (j : Nat) (hj : j < 12) : (∃ v, w.cell? ⟨g, k * 12 + j, none⟩ = some v) ∧ w.frozen? ⟨g, k * 12 + j, none⟩ = false := by
  rcases hs with ⟨hs, hk⟩ | ⟨hs, hk⟩
  · have := h.v; rw [hs] at this; exact this.cell (by omega)
  · have := h.i; rw [hs] at this; exact this.cell (by omega)
theorem Slot.inv {bb : Nat} {w : World} {s : St} {g k : Nat} (hs : Slot s g k) (h : Inv bb w s) (j : Nat) (v : Value) (hv : v.oneCell' = true) : Inv bb (w.setCell ⟨g, j, none⟩ v) s :=
  ⟨by rw [Below.heap_setCell _ _ _ _ (Nat.ne_of_lt (hs.lt h.rows).1)]; exact h.blk, hs.rows h.rows j v hv⟩

/-- The twelve stores of a zero Value. -/
def put0 (w : World) (g k : Nat) : World := ((((((((((((w.setCell ⟨g, k * 12, none⟩ (.int .u8 0)).setCell ⟨g, k * 12 + 1, none⟩ (.int .u8 0)).setCell ⟨g, k * 12 + 2, none⟩ (.int .i16 0)).setCell ⟨g, k * 12 + 3, none⟩ (.int .u32 0)).setCell ⟨g, k * 12 + 4, none⟩ (.float .f32 0)).setCell ⟨g, k * 12 + 5, none⟩ (.int .u16 0)).setCell ⟨g, k * 12 + 6, none⟩ (.float .f64 0)).setCell ⟨g, k * 12 + 7, none⟩ (.int .u64 0)).setCell ⟨g, k * 12 + 8, none⟩ (.bool false)).setCell ⟨g, k * 12 + 9, none⟩ (.slice none 0 0)).setCell ⟨g, k * 12 + 10, none⟩ (.slice none 0 0)).setCell ⟨g, k * 12 + 11, none⟩ (.slice none 0 0))
theorem Slot.put0 {bb : Nat} {w : World} {s : St} {g k : Nat} (hs : Slot s g k) (h : Rows5 bb w s) : Rows5 bb (put0 w g k) s :=
  hs.rows (hs.rows (hs.rows (hs.rows (hs.rows (hs.rows (hs.rows (hs.rows (hs.rows (hs.rows (hs.rows (hs.rows (h) _ _ rfl) _ _ rfl) _ _ rfl) _ _ rfl) _ _ rfl) _ _ rfl) _ _ rfl) _ _ rfl) _ _ rfl) _ _ rfl) _ _ rfl) _ _ rfl
theorem put0_block (w : World) (g k b : Nat) (hb : b ≠ g) : (put0 w g k).heap[b]? = w.heap[b]? := by
  unfold Ybulkeesq.put0
  rw [Below.heap_setCell _ _ _ _ hb, Below.heap_setCell _ _ _ _ hb, Below.heap_setCell _ _ _ _ hb, Below.heap_setCell _ _ _ _ hb, Below.heap_setCell _ _ _ _ hb, Below.heap_setCell _ _ _ _ hb, Below.heap_setCell _ _ _ _ hb, Below.heap_setCell _ _ _ _ hb, Below.heap_setCell _ _ _ _ hb, Below.heap_setCell _ _ _ _ hb, Below.heap_setCell _ _ _ _ hb, Below.heap_setCell _ _ _ _ hb]
theorem put0_below (B g k : Nat) (a w : World) (h : Below B a w) (hg : B ≤ g) : Below B a (put0 w g k) :=
  ((((((((((((h.setCell (p := ⟨g, k * 12, none⟩) hg (.int .u8 0)).setCell (p := ⟨g, k * 12 + 1, none⟩) hg (.int .u8 0)).setCell (p := ⟨g, k * 12 + 2, none⟩) hg (.int .i16 0)).setCell (p := ⟨g, k * 12 + 3, none⟩) hg (.int .u32 0)).setCell (p := ⟨g, k * 12 + 4, none⟩) hg (.float .f32 0)).setCell (p := ⟨g, k * 12 + 5, none⟩) hg (.int .u16 0)).setCell (p := ⟨g, k * 12 + 6, none⟩) hg (.float .f64 0)).setCell (p := ⟨g, k * 12 + 7, none⟩) hg (.int .u64 0)).setCell (p := ⟨g, k * 12 + 8, none⟩) hg (.bool false)).setCell (p := ⟨g, k * 12 + 9, none⟩) hg (.slice none 0 0)).setCell (p := ⟨g, k * 12 + 10, none⟩) hg (.slice none 0 0)).setCell (p := ⟨g, k * 12 + 11, none⟩) hg (.slice none 0 0))

/-- Behind the append and the two stores, in whatever order. -/
theorem next_done {bb g n c : Nat} {W w1 : World} {s s' : St} {i : Nat} {v : Value} (hb : w1.heap[bb]? = some (.cells s.cells 35 (0, 0))) (hr : Rows5 bb w1 s') (hs : Slot s' g n) (hc : s.cells.setIfInBounds i v = s'.cells) (hbel : Below bb W w1) (_ : c = c) :
    (Inv bb ((put0 w1 g n).setCell ⟨bb, i, none⟩ v) s' ∧ Below bb W ((put0 w1 g n).setCell ⟨bb, i, none⟩ v)) ∧ (Inv bb (put0 (w1.setCell ⟨bb, i, none⟩ v) g n) s' ∧ Below bb W (put0 (w1.setCell ⟨bb, i, none⟩ v) g n)) := by
  have hg := (hs.lt hr).1
  have ne : bb ≠ g := Nat.ne_of_lt hg
  refine ⟨⟨⟨?_, (hs.put0 hr).own i v⟩, (put0_below bb g n W w1 hbel (Nat.le_of_lt hg)).setCell (p := ⟨bb, i, none⟩) (Nat.le_refl _) v⟩, ⟨⟨?_, hs.put0 (hr.own i v)⟩, put0_below bb g n W _ (hbel.setCell (p := ⟨bb, i, none⟩) (Nat.le_refl _) v) (Nat.le_of_lt hg)⟩⟩
  · have e : (put0 w1 g n).heap[bb]? = some (.cells s.cells 35 (0, 0)) := by rw [put0_block _ _ _ _ ne]; exact hb
    rw [block_setCell e, hc]
  · rw [put0_block _ _ _ _ ne, block_setCell hb, hc]


theorem Rows5.drew {bb : Nat} {w : World} {s : St} (h : Rows5 bb w s) : Rows5 bb w.drew s := ⟨h.v, h.o, h.i, h.d, h.x, h.vi, h.vd, h.id, h.le, h.up⟩
theorem Rows5.drewN {bb : Nat} {w : World} {s : St} (h : Rows5 bb w s) (n : Nat) : Rows5 bb (w.drewN n) s := ⟨h.v, h.o, h.i, h.d, h.x, h.vi, h.vd, h.id, h.le, h.up⟩

theorem owns_drewN {w : World} {base size n c : Nat} {e : TypeId} {v : Value} {xs : List Value} (h : w.ownsRow base e size v n xs) (m : Nat) (_ : c = c) : (w.drewN m).ownsRow base e size v n xs := h

/-- All that 'next' leaves, at the top. -/
theorem nextV {bb g1 cap1 : Nat} {w W w1 : World} {s : St} {xs : List Value} (h1 : ∀ u ∈ xs, u.oneCell' = true) (hR : Rows5 bb W s) (hbk : w1.heap[bb]? = some (.cells s.cells 35 (0, 0))) (hB : Below bb w W) (hsz : bb < W.heap.size)
    (hown1 : w1.ownsRow (bb + 1) 46 12 (.slice (some ⟨g1, 0, none⟩) (s.nv + 1) cap1) (s.nv + 1) (xs ++ zeroV)) (hg1 : W.grownBy w1 (Value.slice s.av s.nv s.cv).ownBlock) (hat1 : s.av = some ⟨g1, 0, none⟩ ∨ W.heap.size ≤ g1) :
    (Inv bb ((put0 w1 g1 s.nv).setCell ⟨bb, 1, none⟩ (.slice (some ⟨g1, 0, none⟩) (s.nv + 1) cap1)) { s with av := some ⟨g1, 0, none⟩, nv := s.nv + 1, cv := cap1 } ∧ Below bb w ((put0 w1 g1 s.nv).setCell ⟨bb, 1, none⟩ (.slice (some ⟨g1, 0, none⟩) (s.nv + 1) cap1))) ∧
    (Inv bb (put0 (w1.setCell ⟨bb, 1, none⟩ (.slice (some ⟨g1, 0, none⟩) (s.nv + 1) cap1)) g1 s.nv) { s with av := some ⟨g1, 0, none⟩, nv := s.nv + 1, cv := cap1 } ∧ Below bb w (put0 (w1.setCell ⟨bb, 1, none⟩ (.slice (some ⟨g1, 0, none⟩) (s.nv + 1) cap1)) g1 s.nv)) := by
  have hr := Rows5.appV hR hg1 hown1 (fun u hu => by rcases List.mem_append.1 hu with h | h; exact h1 u h; exact zeroV_one u h) hat1
  have hb : Below bb w w1 := hB.grown hg1 (Nat.le_of_lt hsz) (fun k e => by obtain ⟨x, hx, e2⟩ := own_block.1 e; have := (hR.v.lt hx).1; omega)
  exact next_done (c := 0) hbk hr (.inl ⟨rfl, Nat.lt_succ_self _⟩) rfl hb rfl
/-- .. inside a container. -/
theorem nextI {bb g1 cap1 : Nat} {w W w1 : World} {s : St} {xs : List Value} (h1 : ∀ u ∈ xs, u.oneCell' = true) (hR : Rows5 bb W s) (hbk : w1.heap[bb]? = some (.cells s.cells 35 (0, 0))) (hB : Below bb w W) (hsz : bb < W.heap.size)
    (hown1 : w1.ownsRow (bb + 1) 46 12 (.slice (some ⟨g1, 0, none⟩) (s.ni + 1) cap1) (s.ni + 1) (xs ++ zeroV)) (hg1 : W.grownBy w1 (Value.slice s.ai s.ni s.ci).ownBlock) (hat1 : s.ai = some ⟨g1, 0, none⟩ ∨ W.heap.size ≤ g1) :
    (Inv bb ((put0 w1 g1 s.ni).setCell ⟨bb, 5, none⟩ (.slice (some ⟨g1, 0, none⟩) (s.ni + 1) cap1)) { s with ai := some ⟨g1, 0, none⟩, ni := s.ni + 1, ci := cap1 } ∧ Below bb w ((put0 w1 g1 s.ni).setCell ⟨bb, 5, none⟩ (.slice (some ⟨g1, 0, none⟩) (s.ni + 1) cap1))) ∧
    (Inv bb (put0 (w1.setCell ⟨bb, 5, none⟩ (.slice (some ⟨g1, 0, none⟩) (s.ni + 1) cap1)) g1 s.ni) { s with ai := some ⟨g1, 0, none⟩, ni := s.ni + 1, ci := cap1 } ∧ Below bb w (put0 (w1.setCell ⟨bb, 5, none⟩ (.slice (some ⟨g1, 0, none⟩) (s.ni + 1) cap1)) g1 s.ni)) := by
  have hr := Rows5.appI hR hg1 hown1 (fun u hu => by rcases List.mem_append.1 hu with h | h; exact h1 u h; exact zeroV_one u h) hat1 (by omega)
  have hb : Below bb w w1 := hB.grown hg1 (Nat.le_of_lt hsz) (fun k e => by obtain ⟨x, hx, e2⟩ := own_block.1 e; have := (hR.i.lt hx).1; omega)
  exact next_done (c := 0) hbk hr (.inr ⟨rfl, Nat.lt_succ_self _⟩) rfl hb rfl
/-- A container that is open, or was the last that was. -/
theorem open_last {w : World} {base c : Nat} {ao : Option Addr} {l ys zs : List Nat} {st : Nat} (h : w.ownsRow base 49 5 (.slice ao l.length c) l.length (openCells l)) (hl : l = ys ++ st :: zs) :
    ∃ go, ao = some ⟨go, 0, none⟩ ∧ base ≤ go ∧ w.cell? ⟨go, ys.length * 5, none⟩ = some (.int .u8 6) ∧ w.cell? ⟨go, ys.length * 5 + 1, none⟩ = some (.bool true) ∧ w.cell? ⟨go, ys.length * 5 + 2, none⟩ = some (.int .u32 0) ∧ w.cell? ⟨go, ys.length * 5 + 3, none⟩ = some (.int .i64 st) ∧ w.cell? ⟨go, ys.length * 5 + 4, none⟩ = some (.slice none 0 0) := by
  have hn : 0 < l.length := by rw [hl]; simp; omega
  obtain ⟨g, cap, hv⟩ := ownsRow_form h hn
  cases hv
  have hb := (owns_lt h rfl).1
  have hle : ys.length * 5 + 4 < l.length * 5 := by rw [hl]; simp; omega
  have at' : ∀ j, (hj : j < 5) → w.cell? ⟨g, ys.length * 5 + j, none⟩ = (openCell st)[j]? := by
    intro j hj
    rw [h.cellAt _ (by omega)]
    have e : openCells l = openCells ys ++ (openCell st ++ openCells zs) := by rw [hl, openCells_append]; simp [openCells]
    rw [e, List.getElem?_append_right (by rw [openCells_length]; omega), openCells_length, Nat.add_sub_cancel_left, List.getElem?_append_left (by simp [openCell]; omega)]
  exact ⟨g, rfl, hb, at' 0 (by omega), at' 1 (by omega), at' 2 (by omega), at' 3 (by omega), at' 4 (by omega)⟩
end Go.Proofs.Ybulkeesq
