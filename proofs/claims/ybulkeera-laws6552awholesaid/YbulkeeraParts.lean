/- What appendFieldValue does to one byte, and lemmas on owned rows; no walk here. -/
import Derived.Test.YbulkeeraProg
import Derived.WalkKit
import Derived.WalkSmall
import Derived.ArgAppend
import Derived.Laws.CopyOwn
import Derived.WideShapes
namespace Go.Proofs.Ybulkeera
open Go.RowKit

def cl (c : Int) : Int := if c = 13 ∨ c = 10 ∨ c = 0 then 32 else c
theorem cl_hit {c : Int} (h : c = 13 ∨ c = 10 ∨ c = 0) : cl c = 32 := if_pos h
theorem cl_miss {c : Int} (h : ¬ (c = 13 ∨ c = 10 ∨ c = 0)) : cl c = c := if_neg h

def cln (l : List UInt8) : List Value := l.map fun c => .int .u8 (cl c.toNat)
theorem cln_length (l : List UInt8) : (cln l).length = l.length := by simp [cln]

theorem take_snoc (s : ByteArray) (k : Nat) (h : k < s.size) : s.data.toList.take (k + 1) = s.data.toList.take k ++ [s[k]] := by
  rw [List.take_succ_eq_append_getElem (by simpa using h)]; rfl
theorem cln_snoc (s : ByteArray) (k : Nat) (h : k < s.size) : cln (s.data.toList.take (k + 1)) = cln (s.data.toList.take k) ++ [.int .u8 (cl s[k].toNat)] := by
  rw [take_snoc s k h]; simp [cln]

theorem owns_lower {w : World} {b b' : Nat} {e : TypeId} {size : Nat} {v : Value} {n : Nat} {xs : List Value} (h : w.ownsRow b e size v n xs) (hb : b' ≤ b) : w.ownsRow b' e size v n xs := by
  obtain ⟨h1, h2⟩ := h
  refine ⟨h1, ?_⟩
  rcases h2 with h2 | ⟨g, cap, cur, hv, hg, r⟩
  · exact .inl h2
  · exact .inr ⟨g, cap, cur, hv, by omega, r⟩

/-- The state of the loop at round k: nothing appended yet, or the call's own row. -/
def Inv (w : World) (v0 : Value) (n : Nat) (xs : List Value) (l : List UInt8) (k : Nat) (v : Value) (wr : World) : Prop :=
  Below w.heap.size w wr ∧ ((k = 0 ∧ v = v0) ∨ (0 < k ∧ wr.ownsRow w.heap.size 5 1 v (n + k) (xs ++ cln (l.take k))))

theorem inv_first {w wr w1 : World} {v0 v' : Value} {n : Nat} {xs : List Value} {s : ByteArray} {o : Obj} {c : Int} (hs : 0 < s.size) (hb : Below w.heap.size w wr)
    (hc : cl s[0].toNat = c) (hown : w1.ownsRow (wr.heap.size + 1) 5 1 v' (n + 1) (xs ++ [.int .u8 c])) (hg : (wr.alloc o).grownBy w1 none) : Inv w v0 n xs s.data.toList (0 + 1) v' w1 := by
  have hz := hb.size
  refine ⟨(hb.alloc hz o).grown hg (by simp; omega) (by intro k h; cases h), .inr ⟨by omega, ?_⟩⟩
  rw [cln_snoc s 0 hs, hc]
  simpa [cln] using owns_lower hown (by omega)

theorem inv_next {w wr w1 : World} {v0 v v' : Value} {n k : Nat} {xs : List Value} {s : ByteArray} {o : Obj} {c : Int} (hk : k < s.size) (hb : Below w.heap.size w wr)
    (hc : cl s[k].toNat = c) (h0 : wr.ownsRow w.heap.size 5 1 v (n + k) (xs ++ cln (s.data.toList.take k)))
    (hown : w1.ownsRow w.heap.size 5 1 v' (n + k + 1) (xs ++ (cln (s.data.toList.take k) ++ [.int .u8 c]))) (hg : (wr.alloc o).grownBy w1 v.ownBlock) : Inv w v0 n xs s.data.toList (k + 1) v' w1 := by
  have hz := hb.size
  refine ⟨(hb.alloc hz o).grown hg (by simp; omega) (fun j h => (h0.lt j h).1), .inr ⟨by omega, ?_⟩⟩
  rw [cln_snoc s k hk, hc]
  exact hown

/-- What the call hands back: a row whose first cells are the old ones and the cleaned bytes. -/
theorem inv_end {w wr : World} {g n : Nat} {v : Value} {xs : List Value} {s : ByteArray} {k : Nat} (hk : k = s.size) (hxs : xs.length = n)
    (hold : ∀ j u, xs[j]? = some u → w.cell? ⟨g, j, none⟩ = some u) (hglt : g < w.heap.size) (h : Inv w (.slice (some ⟨g, 0, none⟩) n n) n xs s.data.toList k v wr) :
    ∃ g' cap', v = .slice (some ⟨g', 0, none⟩) (n + s.size) cap' ∧ ∀ j u, (xs ++ cln s.data.toList)[j]? = some u → wr.cell? ⟨g', j, none⟩ = some u := by
  obtain ⟨hb, h⟩ := h
  rcases h with ⟨h0, rfl⟩ | ⟨h0, hown⟩
  · have e0 : s.data.toList = [] := List.eq_nil_of_length_eq_zero (by rw [← hk.symm.trans h0]; rfl)
    refine ⟨g, n, by rw [← hk, h0]; rfl, fun j u hj => ?_⟩
    rw [e0] at hj
    rw [hb.cell (p := ⟨g, j, none⟩) hglt]
    exact hold j u (by simpa [cln] using hj)
  · have e1 : s.data.toList.take k = s.data.toList := List.take_of_length_le (by rw [hk]; exact Nat.le_refl _)
    rw [e1] at hown
    have hown' := hown
    obtain ⟨hl, h2⟩ := hown
    rcases h2 with ⟨_, h3⟩ | ⟨g', cap', cur, hv, _, _, _⟩
    · omega
    · refine ⟨g', cap', by rw [hv, hk], fun j u hj => ?_⟩
      have := hown'.cells (g := g') (by rw [hv]; rfl) j u hj
      rw [Go.WideShapes.add_plain, Nat.zero_add] at this
      exact this

end Go.Proofs.Ybulkeera
