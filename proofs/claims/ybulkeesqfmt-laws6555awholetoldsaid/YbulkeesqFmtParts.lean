/- The Writer in memory, and what leaves it as it was. -/
import Derived.Test.YbulkeesqFmtFmt
import Derived.Lib.SmallJoins
namespace Go.Proofs.YbulkeesqFmt
open Go.RowKit Go.Joins

theorem hid {p : Prop} (h : p) : Hid p := h
/-- The Writer's block. -/
def Wr (w : World) (bw : Nat) (b o e : Value) : Prop := w.heap[bw]? = some (.cells #[b, o, e] 29 (0, 0))
theorem Wr.c0 {w : World} {bw : Nat} {b o e : Value} (h : Wr w bw b o e) : w.cell? ⟨bw, 0, none⟩ = some b := cell_of_block h 0
theorem Wr.c1 {w : World} {bw : Nat} {b o e : Value} (h : Wr w bw b o e) : w.cell? ⟨bw, 1, none⟩ = some o := cell_of_block h 1
theorem Wr.c2 {w : World} {bw : Nat} {b o e : Value} (h : Wr w bw b o e) : w.cell? ⟨bw, 2, none⟩ = some e := cell_of_block h 2
theorem Wr.fr {w : World} {bw : Nat} {b o e : Value} (h : Wr w bw b o e) (i : Nat) : w.frozen? ⟨bw, i, none⟩ = false := unfrozen_of_block h i
theorem Wr.lt {w : World} {bw : Nat} {b o e : Value} (h : Wr w bw b o e) : bw < w.heap.size := (Array.getElem?_eq_some_iff.1 h).1
theorem Wr.set0 {w : World} {bw : Nat} {b o e : Value} (h : Wr w bw b o e) (v : Value) : Wr (w.setCell ⟨bw, 0, none⟩ v) bw v o e := block_setCell h v
theorem Wr.set1 {w : World} {bw : Nat} {b o e : Value} (h : Wr w bw b o e) (v : Value) : Wr (w.setCell ⟨bw, 1, none⟩ v) bw b v e := block_setCell h v
theorem Wr.set2 {w : World} {bw : Nat} {b o e : Value} (h : Wr w bw b o e) (v : Value) : Wr (w.setCell ⟨bw, 2, none⟩ v) bw b o v := block_setCell h v
theorem Wr.drewN {w : World} {bw : Nat} {b o e : Value} (h : Wr w bw b o e) (n : Nat) : Wr (w.drewN n) bw b o e := h
theorem Wr.drew {w : World} {bw : Nat} {b o e : Value} (h : Wr w bw b o e) : Wr w.drew bw b o e := h
theorem Wr.alloc {w : World} {bw : Nat} {b o e : Value} (h : Wr w bw b o e) (x : Obj) : Wr (w.alloc x) bw b o e := by
  unfold Wr; rw [Below.heap_alloc _ _ _ h.lt]; exact h
theorem Wr.other {w : World} {bw : Nat} {b o e : Value} (h : Wr w bw b o e) {a : Addr} (ha : bw ≠ a.block) (v : Value) : Wr (w.setCell a v) bw b o e := by
  unfold Wr; rw [Below.heap_setCell _ _ _ _ ha]; exact h
/-- A row of bytes is no Writer. -/
theorem Wr.ne {w : World} {bw base n : Nat} {b o e v : Value} {xs : List Value} (h : Wr w bw b o e) (hown : w.ownsRow base 5 1 v n xs) : v.ownBlock ≠ some bw := by
  obtain ⟨_, h2⟩ := hown
  rcases h2 with ⟨rfl, _⟩ | ⟨g, cap, cur, rfl, _, hh, _⟩
  · simp [Value.ownBlock]
  · intro e2
    simp [Value.ownBlock] at e2
    subst e2
    rw [Wr, hh] at h
    simp at h
theorem Wr.grown {w w' : World} {bw : Nat} {b o e : Value} {row : Option Nat} (h : Wr w bw b o e) (hg : w.grownBy w' row) (hne : row ≠ some bw) : Wr w' bw b o e := by
  unfold Wr
  rw [hg.block bw h.lt (fun e2 => hne e2.symm)]
  exact h
/-- A row of bytes stays owned while the Writer's block is written. -/
theorem owns_set {w : World} {bw base n i : Nat} {b o e v u : Value} {xs : List Value} (h : Wr w bw b o e) (hown : w.ownsRow base 5 1 v n xs) : (w.setCell ⟨bw, i, none⟩ u).ownsRow base 5 1 v n xs := by
  have hne := h.ne hown
  obtain ⟨h1, h2⟩ := hown
  refine ⟨h1, ?_⟩
  rcases h2 with h2 | ⟨g, cap, cur, hv, hb, hh, r⟩
  · exact .inl h2
  · refine .inr ⟨g, cap, cur, hv, hb, ?_, r⟩
    rw [Below.heap_setCell _ _ _ _ (by rintro rfl; exact hne (by rw [hv]; rfl))]
    exact hh

/-- What one frame of a Writer's stack of containers is made of. -/
def frameCells (k : Bool) (a c : Int) : List Value := [.bool k, .int .i64 a, .int .u64 c]
def framesCells (fs : List (Bool × Int × Int)) : List Value := fs.flatMap fun f => frameCells f.1 f.2.1 f.2.2
theorem framesCells_length (fs : List (Bool × Int × Int)) : (framesCells fs).length = fs.length * 3 := by
  induction fs with
  | nil => rfl
  | cons f fs ih => simp [framesCells, frameCells] at ih ⊢; omega
theorem framesCells_at (fs : List (Bool × Int × Int)) (i : Nat) (hi : i < fs.length) :
    (framesCells fs)[i * 3]? = some (.bool fs[i].1) ∧ (framesCells fs)[i * 3 + 1]? = some (.int .i64 fs[i].2.1) ∧ (framesCells fs)[i * 3 + 2]? = some (.int .u64 fs[i].2.2) := by
  induction fs generalizing i with
  | nil => simp at hi
  | cons f fs ih =>
    have e : framesCells (f :: fs) = .bool f.1 :: .int .i64 f.2.1 :: .int .u64 f.2.2 :: framesCells fs := rfl
    rw [e]
    cases i with
    | zero => simp
    | succ i =>
      have := ih i (by simpa using hi)
      refine ⟨?_, ?_, ?_⟩
      · rw [show (i + 1) * 3 = i * 3 + 1 + 1 + 1 from by omega]; simpa using this.1
      · rw [show (i + 1) * 3 + 1 = i * 3 + 1 + 1 + 1 + 1 from by omega]; simpa using this.2.1
      · rw [show (i + 1) * 3 + 2 = i * 3 + 2 + 1 + 1 + 1 from by omega]; simpa using this.2.2
end Go.Proofs.YbulkeesqFmt
