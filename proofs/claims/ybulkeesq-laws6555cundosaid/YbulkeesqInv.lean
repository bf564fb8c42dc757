/- A Builder in memory: its block, its rows, and what each kind of store does to them. -/
import Derived.Test.YbulkeesqAppend
namespace Go.Proofs.Ybulkeesq
open Go.RowKit Go.Joins

/-- A row of the Builder's own, what it holds left open. -/
def Row (w : World) (base : Nat) (e : TypeId) (size : Nat) (a : Option Addr) (n c : Nat) : Prop := ∃ xs, w.ownsRow base e size (.slice a n c) n xs ∧ ∀ u ∈ xs, u.oneCell' = true
/-- Two slices do not lie in one block. -/
def Apart (a b : Option Addr) : Prop := ∀ x y, a = some x → b = some y → x.block ≠ y.block
theorem Apart.symm {a b : Option Addr} (h : Apart a b) : Apart b a := fun x y hx hy e => h y x hy hx e.symm

theorem own_block {a : Option Addr} {n c g : Nat} : (Value.slice a n c).ownBlock = some g ↔ ∃ x, a = some x ∧ x.block = g := by
  cases a with
  | none => simp [Value.ownBlock]
  | some x => simp [Value.ownBlock]

theorem owns_lt {w : World} {base size n c : Nat} {e : TypeId} {a : Option Addr} {xs : List Value} (h : w.ownsRow base e size (.slice a n c) n xs) {x : Addr} (hx : a = some x) : base ≤ x.block ∧ x.block < w.heap.size :=
  h.lt x.block (own_block.2 ⟨x, hx, rfl⟩)
theorem owns_type {w : World} {base size n c : Nat} {e : TypeId} {a : Option Addr} {xs : List Value} (h : w.ownsRow base e size (.slice a n c) n xs) {x : Addr} (hx : a = some x) : ∃ cur, w.heap[x.block]? = some (.cells cur e (0, 0)) := by
  rcases h.2 with ⟨h0, _⟩ | ⟨g, cap, cur, hv, _, hh, _⟩
  · cases h0; cases hx
  · cases hv; cases hx; exact ⟨cur, hh⟩
theorem owns_other {w : World} {base size n c : Nat} {e : TypeId} {a : Option Addr} {xs : List Value} (h : w.ownsRow base e size (.slice a n c) n xs) {p : Addr} (hp : ∀ x, a = some x → x.block ≠ p.block) (v : Value) : (w.setCell p v).ownsRow base e size (.slice a n c) n xs := by
  obtain ⟨h1, h2⟩ := h
  refine ⟨h1, ?_⟩
  rcases h2 with h2 | ⟨g, cap, cur, hv, hb, hh, r⟩
  · exact .inl h2
  · refine .inr ⟨g, cap, cur, hv, hb, ?_, r⟩
    cases hv
    rw [Below.heap_setCell _ _ _ _ (hp _ rfl)]; exact hh
theorem owns_grown {w w' : World} {base size n c : Nat} {e : TypeId} {a : Option Addr} {xs : List Value} {row : Option Nat} (h : w.ownsRow base e size (.slice a n c) n xs) (hg : w.grownBy w' row) (hp : ∀ x, a = some x → row ≠ some x.block) : w'.ownsRow base e size (.slice a n c) n xs := by
  refine h.kept hg ?_
  cases a with
  | none => exact .inl rfl
  | some x => exact .inr fun e => hp x rfl e.symm

theorem Row.other {w : World} {base size n c : Nat} {e : TypeId} {a : Option Addr} (h : Row w base e size a n c) {p : Addr} (hp : ∀ x, a = some x → x.block ≠ p.block) (v : Value) : Row (w.setCell p v) base e size a n c := by
  obtain ⟨xs, h1, h2⟩ := h; exact ⟨xs, owns_other h1 hp v, h2⟩
theorem Row.grown {w w' : World} {base size n c : Nat} {e : TypeId} {a : Option Addr} {row : Option Nat} (h : Row w base e size a n c) (hg : w.grownBy w' row) (hp : ∀ x, a = some x → row ≠ some x.block) : Row w' base e size a n c := by
  obtain ⟨xs, h1, h2⟩ := h; exact ⟨xs, owns_grown h1 hg hp, h2⟩
theorem Row.lt {w : World} {base size n c : Nat} {e : TypeId} {a : Option Addr} (h : Row w base e size a n c) {x : Addr} (hx : a = some x) : base ≤ x.block ∧ x.block < w.heap.size := by
  obtain ⟨xs, h1, _⟩ := h; exact owns_lt h1 hx
theorem Row.type {w : World} {base size n c : Nat} {e : TypeId} {a : Option Addr} (h : Row w base e size a n c) {x : Addr} (hx : a = some x) : ∃ cur, w.heap[x.block]? = some (.cells cur e (0, 0)) := by
  obtain ⟨xs, h1, _⟩ := h; exact owns_type h1 hx
theorem Row.alloc {w : World} {base size n c : Nat} {e : TypeId} {a : Option Addr} (h : Row w base e size a n c) (o : Obj) : Row (w.alloc o) base e size a n c := by
  obtain ⟨xs, h1, h2⟩ := h; exact ⟨xs, h1.alloc o, h2⟩
/-- Where the row is not empty it begins at a block's head. -/
theorem Row.at {w : World} {base size n c : Nat} {e : TypeId} {a : Option Addr} (h : Row w base e size a n c) (hn : 0 < n) : ∃ g, a = some ⟨g, 0, none⟩ := by
  obtain ⟨xs, h1, _⟩ := h
  obtain ⟨g, cap, hv⟩ := ownsRow_form h1 hn
  cases hv; exact ⟨g, rfl⟩
theorem Row.cap {w : World} {base size n c : Nat} {e : TypeId} {a : Option Addr} (h : Row w base e size a n c) : n ≤ c := by
  obtain ⟨xs, h1, _⟩ := h
  rcases h1.2 with ⟨h0, h2⟩ | ⟨g, cap, cur, hv, _, _, hn, _⟩
  · cases h0; omega
  · cases hv; exact hn
/-- Two rows of different element types lie in different blocks. -/
theorem types_apart {w : World} {x y : Addr} {c1 c2 : Array Value} {e1 e2 : TypeId} (h1 : w.heap[x.block]? = some (.cells c1 e1 (0, 0))) (h2 : w.heap[y.block]? = some (.cells c2 e2 (0, 0))) (he : e1 ≠ e2) : x.block ≠ y.block := by
  intro e
  rw [e, h2] at h1
  simp only [Option.some.injEq, Obj.cells.injEq] at h1
  exact he h1.2.1.symm
/-- A cell of a row. -/
theorem Row.cell {w : World} {base size n c g j : Nat} {e : TypeId} (h : Row w base e size (some ⟨g, 0, none⟩) n c) (hj : j < n * size) : (∃ v, w.cell? ⟨g, j, none⟩ = some v) ∧ w.frozen? ⟨g, j, none⟩ = false := by
  obtain ⟨xs, h1, _⟩ := h
  refine ⟨⟨xs[j]'(by rw [h1.1]; exact hj), ?_⟩, h1.frozenAt j⟩
  rw [h1.cellAt j hj]; simp
/-- .. written. -/
theorem Row.put {w : World} {base size n c g j : Nat} {e : TypeId} (h : Row w base e size (some ⟨g, 0, none⟩) n c) (v : Value) (hv : v.oneCell' = true) : Row (w.setCell ⟨g, j, none⟩ v) base e size (some ⟨g, 0, none⟩) n c := by
  obtain ⟨xs, h1, h2⟩ := h
  refine ⟨_, (h1.stored j v).1, fun u hu => ?_⟩
  rcases List.mem_or_eq_of_mem_set hu with h3 | h3
  · exact h2 u h3
  · rw [h3]; exact hv
theorem Row.cut {w : World} {base size n c k : Nat} {e : TypeId} {a : Option Addr} (h : Row w base e size a n c) (hk : k ≤ n) : Row w base e size a k c := by
  obtain ⟨xs, h1, h2⟩ := h
  refine ⟨xs.take (k * size), ⟨by rw [List.length_take, h1.1]; exact Nat.min_eq_left (Nat.mul_le_mul_right _ hk), ?_⟩, fun u hu => h2 u (List.mem_of_mem_take hu)⟩
  rcases h1.2 with ⟨h0, h3⟩ | ⟨g, cap, cur, hv, hb, hh, hn, hm, hs, ht⟩
  · cases h0
    obtain rfl : k = 0 := by omega
    exact .inl ⟨rfl, rfl⟩
  · cases hv
    refine .inr ⟨g, c, cur, rfl, hb, hh, by omega, hm, hs, ?_⟩
    rw [← ht, List.take_take, Nat.min_eq_left (Nat.mul_le_mul_right _ hk)]

theorem owns_cut {w : World} {base size n c k : Nat} {e : TypeId} {a : Option Addr} {xs ys : List Value} (h1 : w.ownsRow base e size (.slice a n c) n (xs ++ ys)) (hl : xs.length = k * size) (hk : k ≤ n) : w.ownsRow base e size (.slice a k c) k xs := by
  refine ⟨hl, ?_⟩
  rcases h1.2 with ⟨h0, h3⟩ | ⟨g, cap, cur, hv, hb, hh, hn, hm, hs, ht⟩
  · cases h0
    obtain rfl : k = 0 := by omega
    exact .inl ⟨rfl, rfl⟩
  · cases hv
    refine .inr ⟨g, c, cur, rfl, hb, hh, by omega, hm, hs, ?_⟩
    have e1 : (cur.toList.take (n * size)).take (k * size) = (xs ++ ys).take (k * size) := by rw [ht]
    rw [List.take_take, Nat.min_eq_left (Nat.mul_le_mul_right _ hk)] at e1
    rw [e1, ← hl, List.take_left']
    rfl

/-- What a container that is open is made of. -/
def openCell (st : Nat) : List Value := [.int .u8 6, .bool true, .int .u32 0, .int .i64 st, .slice none 0 0]
def openCells (sts : List Nat) : List Value := sts.flatMap openCell
theorem openCells_append (a b : List Nat) : openCells (a ++ b) = openCells a ++ openCells b := by simp [openCells]
theorem openCells_length (sts : List Nat) : (openCells sts).length = sts.length * 5 := by
  induction sts with
  | nil => rfl
  | cons x l ih => simp [openCells, openCell] at ih ⊢; omega
theorem openCells_one (sts : List Nat) : ∀ u ∈ openCells sts, u.oneCell' = true := by
  intro u hu
  simp only [openCells, List.mem_flatMap] at hu
  obtain ⟨x, _, hu⟩ := hu
  simp only [openCell, List.mem_cons, List.not_mem_nil, or_false] at hu
  rcases hu with rfl | rfl | rfl | rfl | rfl <;> rfl

/-- The Builder's fields that matter. -/
structure St where
  mv : Int
  av : Option Addr
  nv : Nat
  cv : Nat
  ao : Option Addr
  sts : List Nat
  co : Nat
  ai : Option Addr
  ni : Nat
  ci : Nat
  ad : Option Addr
  nd : Nat
  cd : Nat
  ax : Option Addr
  nx : Nat
  cx : Nat
  tk : Int
  tr : Bool
  m0 : Value
  m1 : Value
  m2 : Value
  m3 : Value
  m4 : Value
  m5 : Value
  m6 : Value
  m7 : Value
  m8 : Value
  old : List Nat

def St.cells (s : St) : Array Value :=
  #[.int .i64 s.mv, .slice s.av s.nv s.cv, .slice s.ao s.sts.length s.co, .slice none 0 0, .slice none 0 0, .slice s.ai s.ni s.ci, .slice s.ad s.nd s.cd, .slice s.ax s.nx s.cx, .int .i64 s.tk, .bool s.tr,
    s.m0, s.m1, s.m2, s.m3, s.m4, s.m5, s.m6, s.m7, s.m8]

/-- The Builder's rows. -/
structure Rows5 (bb : Nat) (w : World) (s : St) : Prop where
  v : Row w (bb + 1) 46 12 s.av s.nv s.cv
  o : w.ownsRow (bb + 1) 49 5 (.slice s.ao (s.sts ++ s.old).length s.co) (s.sts ++ s.old).length (openCells (s.sts ++ s.old))
  i : Row w (bb + 1) 46 12 s.ai s.ni s.ci
  d : Row w (bb + 1) 46 12 s.ad s.nd s.cd
  x : Row w (bb + 1) 5 1 s.ax s.nx s.cx
  vi : Apart s.av s.ai
  vd : Apart s.av s.ad
  id : Apart s.ai s.ad
  le : ∀ y ∈ s.sts, y ≤ s.ni
  up : s.sts.Pairwise (· ≤ ·)

/-- The Builder's block and its rows. -/
structure Inv (bb : Nat) (w : World) (s : St) : Prop where
  blk : w.heap[bb]? = some (.cells s.cells 35 (0, 0))
  rows : Rows5 bb w s

theorem Inv.lt {bb : Nat} {w : World} {s : St} (h : Inv bb w s) : bb < w.heap.size := (Array.getElem?_eq_some_iff.1 h.blk).1
theorem Inv.cell {bb : Nat} {w : World} {s : St} (h : Inv bb w s) (i : Nat) : w.cell? ⟨bb, i, none⟩ = s.cells[i]? := cell_of_block h.blk i
theorem Inv.fr {bb : Nat} {w : World} {s : St} (h : Inv bb w s) (i : Nat) : w.frozen? ⟨bb, i, none⟩ = false := unfrozen_of_block h.blk i
theorem Inv.drewN {bb : Nat} {w : World} {s : St} (h : Inv bb w s) (n : Nat) : Inv bb (w.drewN n) s := ⟨h.blk, h.rows.v, h.rows.o, h.rows.i, h.rows.d, h.rows.x, h.rows.vi, h.rows.vd, h.rows.id, h.rows.le, h.rows.up⟩
theorem Inv.drew {bb : Nat} {w : World} {s : St} (h : Inv bb w s) : Inv bb w.drew s := ⟨h.blk, h.rows.v, h.rows.o, h.rows.i, h.rows.d, h.rows.x, h.rows.vi, h.rows.vd, h.rows.id, h.rows.le, h.rows.up⟩

/-- A store into a block that is none of the Builder's rows. -/
theorem Rows5.other {bb : Nat} {w : World} {s : St} (h : Rows5 bb w s) {p : Addr} (hv : ∀ x, s.av = some x → x.block ≠ p.block) (ho : ∀ x, s.ao = some x → x.block ≠ p.block) (hi : ∀ x, s.ai = some x → x.block ≠ p.block) (hd : ∀ x, s.ad = some x → x.block ≠ p.block) (hx : ∀ x, s.ax = some x → x.block ≠ p.block) (v : Value) : Rows5 bb (w.setCell p v) s :=
  ⟨h.v.other hv v, owns_other h.o ho v, h.i.other hi v, h.d.other hd v, h.x.other hx v, h.vi, h.vd, h.id, h.le, h.up⟩
theorem Rows5.ne {bb : Nat} {w : World} {s : St} (h : Rows5 bb w s) : (∀ x, s.av = some x → x.block ≠ bb) ∧ (∀ x, s.ao = some x → x.block ≠ bb) ∧ (∀ x, s.ai = some x → x.block ≠ bb) ∧ (∀ x, s.ad = some x → x.block ≠ bb) ∧ (∀ x, s.ax = some x → x.block ≠ bb) :=
  ⟨fun x hx => by have := (h.v.lt hx).1; omega, fun x hx => by have := (owns_lt h.o hx).1; omega, fun x hx => by have := (h.i.lt hx).1; omega, fun x hx => by have := (h.d.lt hx).1; omega, fun x hx => by have := (h.x.lt hx).1; omega⟩
/-- A store into the Builder's own block. -/
theorem Rows5.own {bb : Nat} {w : World} {s : St} (h : Rows5 bb w s) (i : Nat) (v : Value) : Rows5 bb (w.setCell ⟨bb, i, none⟩ v) s :=
  h.other h.ne.1 h.ne.2.1 h.ne.2.2.1 h.ne.2.2.2.1 h.ne.2.2.2.2 v
theorem Rows5.alloc {bb : Nat} {w : World} {s : St} (h : Rows5 bb w s) (o : Obj) : Rows5 bb (w.alloc o) s := ⟨h.v.alloc o, h.o.alloc o, h.i.alloc o, h.d.alloc o, h.x.alloc o, h.vi, h.vd, h.id, h.le, h.up⟩
theorem Inv.alloc {bb : Nat} {w : World} {s : St} (h : Inv bb w s) (o : Obj) : Inv bb (w.alloc o) s := ⟨by rw [Below.heap_alloc _ _ _ h.lt]; exact h.blk, h.rows.alloc o⟩
/-- A field of the Builder is written. -/
theorem Inv.set {bb : Nat} {w : World} {s s' : St} (h : Inv bb w s) (i : Nat) (v : Value) (hc : s.cells.setIfInBounds i v = s'.cells) (hr : Rows5 bb w s') : Inv bb (w.setCell ⟨bb, i, none⟩ v) s' :=
  ⟨by rw [block_setCell h.blk, hc], hr.own i v⟩

/-- How much the Builder holds. -/
def St.sum (s : St) : Nat := s.nv + s.ni + s.nd + s.sts.length
/-- What one step of a script may do to a Builder. -/
structure Grow (L : Nat) (s s' : St) : Prop where
  mv : s'.mv = s.mv
  m0 : s'.m0 = s.m0
  m1 : s'.m1 = s.m1
  m2 : s'.m2 = s.m2
  m3 : s'.m3 = s.m3
  m4 : s'.m4 = s.m4
  m5 : s'.m5 = s.m5
  m6 : s'.m6 = s.m6
  m7 : s'.m7 = s.m7
  m8 : s'.m8 = s.m8
  cv : s.cv ≤ s'.cv
  co : s.co ≤ s'.co
  ci : s.ci ≤ s'.ci
  cd : s.cd ≤ s'.cd
  cx : s.cx ≤ s'.cx
  sum : s'.sum ≤ s.sum + 1
  nx : s'.nx ≤ s.nx + L
  tk : s'.tk ≤ s.tk + 1
  t0 : 0 ≤ s.tk → 0 ≤ s'.tk
theorem Grow.refl (L : Nat) (s : St) : Grow L s s := ⟨rfl, rfl, rfl, rfl, rfl, rfl, rfl, rfl, rfl, rfl, Nat.le_refl _, Nat.le_refl _, Nat.le_refl _, Nat.le_refl _, Nat.le_refl _, Nat.le_succ _, Nat.le_add_right _ _, by omega, fun h => h⟩
end Go.Proofs.Ybulkeesq
