/- The law 6553C: the groups as the law makes them, and what an entry must be. -/
import Derived.Test.YbulkeeroCPos
namespace Go.Proofs.Ybulkeero
open Go.RowKit Go.Joins

theorem flat_get {α β : Type} {f : α → List β} {k : Nat} : ∀ {L : List α} (_ : ∀ x ∈ L, (f x).length = k) {j : Nat} {x : α} (_ : L[j]? = some x) {o : Nat} (_ : o < k), (L.flatMap f)[j * k + o]? = (f x)[o]?
  | [], _, j, x, h, _, _ => by simp at h
  | a :: L, hf, 0, x, h, o, ho => by
    have : a = x := by simpa using h
    subst this
    rw [List.flatMap_cons, List.getElem?_append_left (by rw [hf a (by simp)]; omega)]
    simp
  | a :: L, hf, j + 1, x, h, o, ho => by
    have ha := hf a (by simp)
    have e : (j + 1) * k + o = k + (j * k + o) := by rw [Nat.succ_mul]; omega
    rw [List.flatMap_cons, List.getElem?_append_right (by omega), ha, e, Nat.add_sub_cancel_left]
    exact flat_get (fun y hy => hf y (by simp [hy])) (by simpa using h) ho
theorem flat_set {α β : Type} {f : α → List β} {k : Nat} {v : β} {x' : α} : ∀ {L : List α} (_ : ∀ x ∈ L, (f x).length = k) {j : Nat} {x : α} (_ : L[j]? = some x) {o : Nat} (_ : o < k) (_ : f x' = (f x).set o v), (L.flatMap f).set (j * k + o) v = (L.set j x').flatMap f
  | [], _, j, x, h, _, _, _ => by simp at h
  | a :: L, hf, 0, x, h, o, ho, hx => by
    have : a = x := by simpa using h
    subst this
    rw [List.flatMap_cons, List.set_cons_zero, List.flatMap_cons, hx, List.set_append_left _ _ (by rw [hf a (by simp)]; omega)]
    simp
  | a :: L, hf, j + 1, x, h, o, ho, hx => by
    have ha := hf a (by simp)
    have e : (j + 1) * k + o = k + (j * k + o) := by rw [Nat.succ_mul]; omega
    rw [List.flatMap_cons, List.set_cons_succ, List.flatMap_cons, List.set_append_right _ _ (by omega), ha, e, Nat.add_sub_cancel_left]
    rw [flat_set (fun y hy => hf y (by simp [hy])) (by simpa using h) ho hx]
theorem flat_length {α β : Type} {f : α → List β} {k : Nat} : ∀ {L : List α} (_ : ∀ x ∈ L, (f x).length = k), (L.flatMap f).length = L.length * k
  | [], _ => by simp
  | a :: L, hf => by
    rw [List.flatMap_cons, List.length_append, hf a (by simp), flat_length (fun y hy => hf y (by simp [hy])), List.length_cons, Nat.succ_mul]
    omega

theorem own_form {w : World} {base : Nat} {e : TypeId} {size : Nat} {v : Value} {n : Nat} {xs : List Value} (h : w.ownsRow base e size v n xs) (hn : 0 < n) : ∃ g cap, v = .slice (some ⟨g, 0, none⟩) n cap := by
  rcases h.2 with ⟨_, h0⟩ | ⟨g, cap, cur, hv, _⟩
  · omega
  · exact ⟨g, cap, hv⟩

/-- A group as the law makes it, with the row of its members. -/
structure MG where
  q : PG
  r : Row
def MG.cells (x : MG) : List Value := rcells x.q.d x.q.P ++ [x.r.val]
def mems (q : PG) : List Value := q.ms.map fun m : Nat => Value.int .i64 (m : Int)
theorem MG.cells_length {x : MG} (h : x.q.P.length = 20) : x.cells.length = 22 := by simp [MG.cells, rcells_length, h]
theorem MG.cell_mem {x : MG} (h : x.q.P.length = 20) : x.cells[21]? = some x.r.val := by
  rw [MG.cells, List.getElem?_append_right (by rw [rcells_length, h]; omega), rcells_length, h]
  rfl
theorem MG.cell_reach {x : MG} {j : Nat} {v : Value} (h : (rcells x.q.d x.q.P)[j]? = some v) : x.cells[j]? = some v := by
  have hj := (List.getElem?_eq_some_iff.1 h).1
  rw [MG.cells, List.getElem?_append_left hj]
  exact h
structure MAt (base : Nat) (R : Row) (L : List MG) (w : World) : Prop where
  own : w.ownsRow base 149 22 R.val R.n (L.flatMap MG.cells)
  n : R.n = L.length
  len : ∀ x ∈ L, x.q.P.length = 20
  rn : ∀ x ∈ L, x.r.n = x.q.ms.length
  row : ∀ x ∈ L, w.ownsRow base 3 1 x.r.val x.r.n (mems x.q)
  top : ∀ x ∈ L, ∀ b ∈ rowFoot x.r, b ∉ rowFoot R
  two : ∀ (i j : Nat) (x y : MG), L[i]? = some x → L[j]? = some y → i ≠ j → ∀ b ∈ rowFoot x.r, b ∉ rowFoot y.r
theorem MAt.fr {base : Nat} {R : Row} {L : List MG} {w w' : World} (h : MAt base R L w) (F : Fr w w' (fun _ => False)) : MAt base R L w' :=
  ⟨owns_fr h.own F (fun _ _ e => e), h.n, h.len, h.rn, fun x hx => owns_fr (h.row x hx) F (fun _ _ e => e), h.top, h.two⟩
/-- Where the law's groups lie. -/
theorem MAt.at {base : Nat} {R : Row} {L : List MG} {w : World} (h : MAt base R L w) {j : Nat} {x : MG} (hx : L[j]? = some x) : ∃ g, R.a = some ⟨g, 0, none⟩ ∧ w.rangeAt g (j * 22) (rcells x.q.d x.q.P) ∧ w.cell? ⟨g, j * 22 + 21, none⟩ = some x.r.val ∧ w.frozen? ⟨g, j * 22 + 21, none⟩ = false := by
  have hjl := (List.getElem?_eq_some_iff.1 hx).1
  have hn : 0 < R.n := by rw [h.n]; omega
  obtain ⟨g, cap, hv⟩ := own_form h.own hn
  have ha : R.a = some ⟨g, 0, none⟩ := by
    have : Value.slice R.a R.n R.c = .slice (some ⟨g, 0, none⟩) R.n cap := hv
    exact (Value.slice.inj this).1
  have hl := fun y hy => MG.cells_length (h.len y hy)
  have hxm := List.mem_of_getElem? hx
  have hown := h.own
  rw [hv] at hown
  have hcell := fun (o : Nat) (ho : o < 22) => (hown.cellAt (j * 22 + o) (by rw [h.n]; omega)).trans (flat_get hl hx ho)
  refine ⟨g, ha, fun o v ho => ?_, ?_, hown.frozenAt _⟩
  · have ho' := (List.getElem?_eq_some_iff.1 ho).1
    rw [rcells_length, h.len x hxm] at ho'
    rw [hcell o (by omega)]
    exact MG.cell_reach ho
  · rw [hcell 21 (by decide)]
    exact MG.cell_mem (h.len x hxm)
theorem MAt.mem {base : Nat} {R : Row} {L : List MG} {w : World} (h : MAt base R L w) {j : Nat} {x : MG} (hx : L[j]? = some x) {pos m : Nat} (hm : x.q.ms[pos]? = some m) : ∃ g, x.r.a = some ⟨g, 0, none⟩ ∧ w.cell? ⟨g, pos, none⟩ = some (.int .i64 (m : Int)) ∧ pos < x.r.n := by
  have hxm := List.mem_of_getElem? hx
  have hpl := (List.getElem?_eq_some_iff.1 hm).1
  have hrn := h.rn x hxm
  have hrow := h.row x hxm
  obtain ⟨g, cap, hv⟩ := own_form hrow (by omega)
  have ha : x.r.a = some ⟨g, 0, none⟩ := by
    have : Value.slice x.r.a x.r.n x.r.c = .slice (some ⟨g, 0, none⟩) x.r.n cap := hv
    exact (Value.slice.inj this).1
  rw [hv] at hrow
  refine ⟨g, ha, ?_, by omega⟩
  rw [hrow.cellAt pos (by omega)]
  simp [mems, hm]

/-- The steps as they lie now. -/
theorem At2.step {p : P5} {its : Nat → Nat} {cs : Nat → Row} {i : Nat} {gs : List Grp} {cnt foot : List Nat} {w : World} (h : At2 p its cs i gs cnt foot w) (ok : Ok5 p) {m : Nat} (hm : m < p.n) : ∃ sb so, p.sa = some ⟨sb, so, none⟩ ∧ sb < p.w0.heap.size ∧ w.rangeAt sb (so + m * 45) (p.st m).cells := by
  rcases ok.at' with e | ⟨sb, so, e, hb, hr⟩
  · omega
  · refine ⟨sb, so, e, hb, fun j v hj => ?_⟩
    rw [h.below.cell hb]
    exact hr m hm j v hj
/-- A step's cells, one by one. -/
structure StpAt (sb so : Nat) (s : Stp) (w : World) : Prop where
  key : w.rangeAt sb so (by8 s.key)
  far : w.rangeAt sb (so + 20) (by8 s.far)
  whole : w.cell? ⟨sb, so + 40, none⟩ = some (.bool s.whole)
  aside : w.cell? ⟨sb, so + 41, none⟩ = some (.bool s.aside)
  conf : w.cell? ⟨sb, so + 42, none⟩ = some (.bool s.conf)
  count : w.cell? ⟨sb, so + 43, none⟩ = some (.int .i32 s.count)
  nodes : w.cell? ⟨sb, so + 44, none⟩ = some (.slice s.na s.vs.length s.nc)
theorem stpAt {sb so : Nat} {s : Stp} {w : World} (lk : s.key.length = 20) (lf : s.far.length = 20) (h : w.rangeAt sb so s.cells) : StpAt sb so s w := by
  refine ⟨fun j v hj => h j v (Stp.cell_key hj), fun j v hj => ?_, h 40 _ (Stp.cell_last lk lf 0), h 41 _ (Stp.cell_last lk lf 1), h 42 _ (Stp.cell_last lk lf 2), h 43 _ (Stp.cell_last lk lf 3), h 44 _ (Stp.cell_last lk lf 4)⟩
  have := h (20 + j) v (Stp.cell_far lk hj)
  rwa [← Nat.add_assoc] at this
theorem At2.nodes {p : P5} {its : Nat → Nat} {cs : Nat → Row} {i : Nat} {gs : List Grp} {cnt foot : List Nat} {w : World} (h : At2 p its cs i gs cnt foot w) (ok : Ok5 p) {m : Nat} (hm : m < p.n) : (p.st m).vs = [] ∨ ∃ b o, (p.st m).na = some ⟨b, o, none⟩ ∧ w.rangeAt b o (p.st m).vs := by
  rcases (ok.each m hm).src with e | ⟨b, o, e, hb, hr⟩
  · exact .inl e
  · refine .inr ⟨b, o, e, fun j v hj => ?_⟩
    rw [h.below.cell hb]
    exact hr j v hj

/-- All that a member's entry is compared with. -/
theorem At2.member {p : P5} {its : Nat → Nat} {cs : Nat → Row} {gs : List Grp} {cnt foot : List Nat} {w : World} {S : FS} (h : At2 p its cs p.n gs cnt foot w) (ok : Ok5 p) (A : FAt p.B p.rb p.wid w S) (hS : S.gs = gs) {j : Nat} {g : Grp} {q : PG} (hg : gs[j]? = some g) (hq : (pgs p.D p.P p.n)[j]? = some q) {pos m : Nat} (hm : q.ms[pos]? = some m) :
    ∃ sb so eb, p.sa = some ⟨sb, so, none⟩ ∧ m < p.n ∧ pos < g.ents.n ∧ g.ents.a = some ⟨eb, 0, none⟩ ∧ PosAt eb (pos * 48) sb (so + m * 45) p.xb m (its m) (p.st m) w ∧ w.cell? ⟨sb, so + m * 45 + 44, none⟩ = some (.slice (p.st m).na (p.st m).vs.length (p.st m).nc) ∧ (∀ k, k < p.wid → ∃ b, g.rooms.a = some ⟨b, 0, none⟩ ∧ w.cell? ⟨b, pos * p.wid + k, none⟩ = (room p.wid (p.st m).vs)[k]? ∧ pos * p.wid + k < g.rooms.n) ∧ pos ≤ 4096 := by
  have hgm : g ∈ S.gs := by rw [hS]; exact List.mem_of_getElem? hg
  have G := A.grp g hgm
  have T := h.rel.each j g q hg hq
  have hms := pgs_ms p.D p.P p.n j q hq
  have hml : m < p.n := hms.2 m (List.mem_of_getElem? hm)
  have hpl := (List.getElem?_eq_some_iff.1 hm).1
  have hpe : pos < g.ents.n := by rw [T.en]; exact hpl
  obtain ⟨sb, so, hsa, hsb, hst⟩ := h.step ok hml
  obtain ⟨eb, cap, hv⟩ := own_form G.ents (by omega)
  have ha : g.ents.a = some ⟨eb, 0, none⟩ := by
    have : Value.slice g.ents.a g.ents.n g.ents.c = .slice (some ⟨eb, 0, none⟩) g.ents.n cap := hv
    exact (Value.slice.inj this).1
  have hown := G.ents
  rw [hv] at hown
  have hEl : ∀ x ∈ q.ms, (p.E its x).length = 48 := fun x hx => by
    have s := ok.each x (hms.2 x hx)
    exact entE_length s.lk s.lf _ _ _ _ _
  have sm := ok.each m hml
  have hcell : ∀ o, o < 48 → w.cell? ⟨eb, pos * 48 + o, none⟩ = (p.E its m)[o]? := fun o ho => by
    rw [hown.cellAt (pos * 48 + o) (by omega), T.ex]
    exact flat_get hEl hm ho
  have W := stpAt sm.lk sm.lf hst
  refine ⟨sb, so, eb, hsa, hml, hpe, ha, ⟨fun o v ho => ?_, fun o v ho => ?_, ?_, ?_, ?_, ?_, ?_, W.key, W.far, W.whole, W.aside, W.conf, W.count, h.xs m hml⟩, W.nodes, fun k hk => ?_, by have := ok.n; have := hms.1; omega⟩
  · have ho' := (List.getElem?_eq_some_iff.1 ho).1
    rw [by8_length, sm.lk] at ho'
    rw [hcell o (by omega)]
    exact entE_key ho
  · have ho' := (List.getElem?_eq_some_iff.1 ho).1
    rw [by8_length, sm.lf] at ho'
    rw [Nat.add_assoc, hcell (22 + o) (by omega)]
    exact entE_far sm.lk ho
  · rw [hcell 42 (by decide)]; exact entE_last sm.lk sm.lf _ _ _ _ _ 0
  · rw [hcell 43 (by decide)]; exact entE_last sm.lk sm.lf _ _ _ _ _ 1
  · rw [hcell 44 (by decide)]; exact entE_last sm.lk sm.lf _ _ _ _ _ 2
  · rw [hcell 45 (by decide)]; exact entE_last sm.lk sm.lf _ _ _ _ _ 3
  · rw [hcell 47 (by decide)]; exact entE_last sm.lk sm.lf _ _ _ _ _ 5
  · have hlt : pos * p.wid + k < g.rooms.n := by
      rw [T.rn]
      have : (pos + 1) * p.wid ≤ q.ms.length * p.wid := Nat.mul_le_mul_right _ hpl
      rw [Nat.succ_mul] at this
      omega
    obtain ⟨rmb, cap2, hv2⟩ := own_form G.rooms (by omega)
    have ha2 : g.rooms.a = some ⟨rmb, 0, none⟩ := by
      have : Value.slice g.rooms.a g.rooms.n g.rooms.c = .slice (some ⟨rmb, 0, none⟩) g.rooms.n cap2 := hv2
      exact (Value.slice.inj this).1
    have hown2 := G.rooms
    rw [hv2] at hown2
    refine ⟨rmb, ha2, ?_, hlt⟩
    rw [hown2.cellAt _ (by omega), T.rx]
    exact flat_get (fun x _ => room_length _ _) hm hk
end Go.Proofs.Ybulkeero
