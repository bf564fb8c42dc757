/- What the law is told of its arguments, and small laws on bytes in memory. -/
import Derived.Test.YbulkeesqFmtString
import Derived.Laws.CopyOwn
namespace Go.Proofs.YbulkeesqFmt
open Go.RowKit Go.Joins

/-- n bytes, by number. -/
def cellsOf (f : Nat → Int) (n : Nat) : List Value := (List.range n).map fun i => .int .u8 (f i)
theorem cellsOf_length (f : Nat → Int) (n : Nat) : (cellsOf f n).length = n := by simp [cellsOf]
theorem cellsOf_at (f : Nat → Int) (n j : Nat) (h : j < n) : (cellsOf f n)[j]? = some (.int .u8 (f j)) := by simp [cellsOf, h]
theorem cellsOf_lt {f : Nat → Int} {n j : Nat} {u : Value} (h : (cellsOf f n)[j]? = some u) : j < n ∧ u = .int .u8 (f j) := by
  have h1 : j < n := by have := (List.getElem?_eq_some_iff.1 h).1; rw [cellsOf_length] at this; exact this
  rw [cellsOf_at f n j h1] at h
  exact ⟨h1, by cases h; rfl⟩
theorem cellsOf_one (f : Nat → Int) (n : Nat) : ∀ u ∈ cellsOf f n, u.oneCell' = true := by
  intro u hu; simp [cellsOf] at hu; obtain ⟨a, _, rfl⟩ := hu; rfl
theorem cellsOf_ext {f : Nat → Int} {n : Nat} {l : List Value} (h : l.length = n) (hc : ∀ i, i < n → l[i]? = some (.int .u8 (f i))) : l = cellsOf f n := by
  apply List.ext_getElem?
  intro i
  by_cases hi : i < n
  · rw [hc i hi, cellsOf_at f n i hi]
  · rw [List.getElem?_eq_none (by omega), List.getElem?_eq_none (by rw [cellsOf_length]; omega)]

theorem Src.at {bw n c : Nat} {w : World} {ao : Option Addr} {f : Nat → Int} (h : Src bw w ao n c (cellsOf f n)) (hp : 0 < n) :
    ∃ b off, ao = some ⟨b, off, none⟩ ∧ b < bw ∧ ∀ j, j < n → w.cell? ⟨b, off + j, none⟩ = some (.int .u8 (f j)) := by
  obtain ⟨_, _, h3, h4⟩ := h
  cases ao with
  | none => have := (h3 rfl).1; omega
  | some ad =>
    obtain ⟨b, off, spot⟩ := ad
    have h0 := (h4 _ rfl 0 _ (cellsOf_at f n 0 hp)).2
    have hspot : spot = none := by simpa [Addr.add] using World.cell?_spot h0
    subst hspot
    have hb := (h4 _ rfl 0 _ (cellsOf_at f n 0 hp)).1
    rw [Go.WideShapes.add_plain] at hb
    refine ⟨b, off, rfl, hb, fun j hj => ?_⟩
    have := (h4 _ rfl j _ (cellsOf_at f n j hj)).2
    rw [Go.WideShapes.add_plain] at this
    exact this
/-- A row that is known whole is such a source. -/
theorem src_row {bw n : Nat} {w : World} {g : Nat} {f : Nat → Int} (h : w.heap[g]? = some (.cells (cellsOf f n).toArray 5 (0, 0))) (hb : g < bw) : Src bw w (some ⟨g, 0, none⟩) n n (cellsOf f n) := by
  refine ⟨cellsOf_length f n, cellsOf_one f n, fun h => (nomatch h), ?_⟩
  rintro ad e j u hj
  cases e
  rw [Go.WideShapes.add_plain, Nat.zero_add]
  exact ⟨hb, (cell_of_block h j).trans (by simpa using hj)⟩
theorem src_none {bw : Nat} {w : World} {f : Nat → Int} : Src bw w none 0 0 (cellsOf f 0) := ⟨rfl, by simp [cellsOf], fun _ => ⟨rfl, rfl⟩, fun _ h => (nomatch h)⟩
theorem Src.up {bw bw' n c : Nat} {w : World} {ao : Option Addr} {X : List Value} (h : Src bw w ao n c X) (hb : bw ≤ bw') : Src bw' w ao n c X :=
  ⟨h.1, h.2.1, h.2.2.1, fun ad e j u hj => ⟨Nat.lt_of_lt_of_le (h.2.2.2 ad e j u hj).1 hb, (h.2.2.2 ad e j u hj).2⟩⟩
/-- A source that lay in a world lies in every later one. -/
theorem Src.later {n c : Nat} {w w' : World} {ao : Option Addr} {X : List Value} (h : Src w.heap.size w ao n c X) (hb : Below w.heap.size w w') : Src w'.heap.size w' ao n c X := (h.kept hb).up hb.size

theorem owned_heap {w : World} {base g n : Nat} {xs : List Value} (h : w.ownsRow base 5 1 (.slice (some ⟨g, 0, none⟩) n n) n xs) :
    ∃ cur : List Value, w.heap[g]? = some (.cells cur.toArray 5 (0, 0)) ∧ cur.length = n := by
  obtain ⟨_, h2⟩ := h
  rcases h2 with ⟨h0, _⟩ | ⟨g', cap', cur, hv, _, hh, _, _, hsz, _⟩
  · cases h0
  · cases hv
    exact ⟨cur.toList, by simpa using hh, by simpa using hsz⟩
theorem owns_of_row {w : World} {base g n : Nat} {f : Nat → Int} (h : w.heap[g]? = some (.cells (cellsOf f n).toArray 5 (0, 0))) (hb : base ≤ g) (hn : n ≤ 2000000) : w.ownsRow base 5 1 (.slice (some ⟨g, 0, none⟩) n n) n (cellsOf f n) := by
  refine ⟨by rw [cellsOf_length]; omega, .inr ⟨g, n, _, rfl, hb, h, Nat.le_refl _, by unfold maxLen; omega, by simp [cellsOf_length], ?_⟩⟩
  simp only [Nat.mul_one]
  exact List.take_of_length_le (by rw [cellsOf_length]; exact Nat.le_refl _)
theorem splice_all {cur : List Value} {f : Nat → Int} {n : Nat} (h : cur.length = n) : splice cur 0 (cellsOf f n) = cellsOf f n := by
  simp [splice, cellsOf_length]; omega

theorem Ybaf.size5 : (Ybaf.prog.info? 5).map (·.size) = some 1 := by kernel_rfl

/-- 'make([]byte, n)': a row of n nought bytes behind what was there. -/
theorem wpList_make_bytes (w : World) {ops : Array Oper} {rest : List Oper} {o : Oper} {a : Act} {Q : Exit → Act → World → Prop} (hg : o.guard = none) (l c : Operand) (hop : o.op = Op.makeSlice 22 l c)
    (n : Nat) (hl : a.eval l = .int .i64 n) (hc : a.eval c = .int .i64 n) (hn : n ≤ 2000000)
    (hK : ∀ w', Below w.heap.size w w' → Hid (w'.heap[w.heap.size]? = some (.cells (cellsOf (fun _ => 0) n).toArray 5 (0, 0))) → wpList Ybaf.prog ops Q rest (a.put o.dst (.slice (some ⟨w.heap.size, 0, none⟩) n n)) w') :
    wpList Ybaf.prog ops Q (o :: rest) a w := by
  obtain ⟨i0, hi, hz0, hz1, hz2⟩ := info_parts Ybaf.info5
  refine wpList_make_full w hg l c 22 hop w.heap.size 5 i0 (.int .u8 0) 1 Ybaf.underlying22 hi hz0 hz1 .i64 .i64 _ _ n hl hc rfl rfl (by rw [hz2]; omega) (by unfold maxLen; omega) (Nat.le_refl _) ?_
  intro w' hown hgr
  refine hK w' ((Below.refl _ _).grown hgr (Nat.le_refl _) (by intro k h; cases h)) ?_
  obtain ⟨h1, h2⟩ := hown
  rcases h2 with ⟨h0, _⟩ | ⟨g', cap', cur, hv, _, hh, _, _, hsz, htk⟩
  · cases h0
  · cases hv
    show _ = _
    rw [hh]
    have e : cur.toList = cellsOf (fun _ => 0) n := by
      have e1 : cur.toList.take (n * 1) = cur.toList := List.take_of_length_le (by simpa using Nat.le_of_eq hsz)
      rw [← e1, htk]
      apply cellsOf_ext
      · rw [h1]; omega
      · intro i hi
        simp [madeCells, Value.cells, hi, Nat.mod_one]
    rw [← e]
end Go.Proofs.YbulkeesqFmt
