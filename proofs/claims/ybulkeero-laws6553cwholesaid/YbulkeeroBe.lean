/- Four bytes behind a slice; a clone. -/
import Derived.Test.YbulkeeroAppend
namespace Go.Proofs.Ybulkeero
open Go.RowKit Go.Joins

theorem Yba.row5 : (Yba.prog.info? 5).map (fun i => (i.zero.map (·.cells.size), i.size, i.bytes)) = some (some 1, 1, 1) := by kernel_rfl
theorem Yba.row27 : (Yba.prog.info? 27).map (fun i => (i.zero.map (·.cells.size), i.size, i.bytes)) = some (some 20, 20, 20) := by kernel_rfl
theorem hid {p : Prop} (h : p) : Hid p := h

theorem grown_alloc (w : World) (o : Obj) (r : Option Nat) : w.grownBy (w.alloc o) r := ⟨rfl, rfl, rfl, by simp, fun k hk _ => Below.heap_alloc _ _ _ hk⟩
theorem grown_trans {a b c : World} {r : Option Nat} (h : a.grownBy b r) (k : b.grownBy c r) : a.grownBy c r :=
  ⟨k.os.trans h.os, k.tape.trans h.tape, k.output.trans h.output, Nat.le_trans h.size k.size, fun i hi hr => (k.block i (Nat.lt_of_lt_of_le hi h.size) hr).trans (h.block i hi hr)⟩
theorem heap_new (w : World) (o : Obj) : (w.alloc o).heap[w.heap.size]? = some o := by
  show (w.heap.push o)[w.heap.size]? = _
  simp
/-- The cells of the block that was made last. -/
theorem src_new (w : World) (l : List Value) (t : TypeId) (g : Nat) (hg : g = w.heap.size) : Src (w.alloc (.cells l.toArray t)) (some ⟨g, 0, none⟩) l := by
  subst hg
  intro _
  refine ⟨_, rfl, fun j u hj => ?_⟩
  rw [Go.WideShapes.add_plain, Nat.zero_add, cell_of_block (heap_new w _)]
  simpa using hj

/-- A number's four bytes, the highest first. -/
def be (v : Int) : List Int := [v / 16777216, v / 65536 % 256, v / 256 % 256, v % 256]

/-- What an append onto a row of bytes leaves. -/
def AppTo (w : World) (base : Nat) (av : Option Addr) (n cap m : Nat) (ys : List Value) (e : Ending) (w' : World) : Prop := ∃ a' cap', e = .returned (.slice a' (n + m) cap') ∧ w'.ownsRow base 5 1 (.slice a' (n + m) cap') (n + m) ys ∧ w.grownBy w' (Value.slice av n cap).ownBlock ∧ (a' = av ∨ ∃ g, a' = some ⟨g, 0, none⟩ ∧ w.heap.size ≤ g)

set_option maxHeartbeats 400000 in
theorem abe_any (base : Nat) (av : Option Addr) (n cap : Nat) (xs : List Value) (v : Int) (w : World) (h0 : 0 ≤ v) (h1 : v ≤ 4294967295) (hown : w.ownsRow base 5 1 (.slice av n cap) n xs) (hb : base ≤ w.heap.size) (hn : n ≤ 100000000) :
    Calls Yba.prog 8 #[.slice av n cap, .int .u32 v] w (AppTo w base av n cap 4 (xs ++ by8 (be v))) := by
  have HO := hid hown
  clear hown
  go_enter Yba.func8, Yba.ntmps8
  go_wp2_with (at_builtin; refine wpList_append_full rfl (.tmp 5) (.tmp 17) 25 rfl base 5 1 1 Yba.underlying25 Yba.row5 (by decide) av n cap xs rfl (by exact HO.out.alloc _) (some ⟨w.heap.size, 0, none⟩) 4 4 (by8 (be v)) rfl rfl (by exact src_new w _ 5 _ rfl) (by8_one _) (by unfold maxLen; omega) (by omega) (by simp; omega) ?_; intro a' cap' w1 hown1 hg1 hat1; have D : Hid (AppTo w base av n cap 4 (xs ++ by8 (be v)) (.returned (.slice a' (n + 4) cap')) w1) := ⟨a', cap', rfl, hown1, grown_trans (grown_alloc w _ _) hg1, (by rcases hat1 with h | ⟨g, h, k⟩; exact .inl h; exact .inr ⟨g, h, by simp at k; omega⟩)⟩; clear hown1 hg1 hat1)
  go_ret
  exact D.out

set_option maxHeartbeats 400000 in
theorem au32_any (base : Nat) (av : Option Addr) (n cap : Nat) (xs : List Value) (v : Int) (w : World) (h0 : 0 ≤ v) (h1 : v ≤ 4294967295) (hown : w.ownsRow base 5 1 (.slice av n cap) n xs) (hb : base ≤ w.heap.size) (hn : n ≤ 100000000) :
    Calls Yba.prog 33 #[.agg #[], .slice av n cap, .int .u32 v] w (AppTo w base av n cap 4 (xs ++ by8 (be v))) := by
  have HO := hid hown
  clear hown
  go_enter Yba.func33, Yba.ntmps33
  go_wp2_with (at_builtin; refine wpList_append_full rfl (.tmp 7) (.tmp 19) 25 rfl base 5 1 1 Yba.underlying25 Yba.row5 (by decide) av n cap xs rfl (by exact (HO.out.alloc _).alloc _) (some ⟨w.heap.size + 1, 0, none⟩) 4 4 (by8 (be v)) rfl rfl (by exact src_new _ _ 5 _ (by simp)) (by8_one _) (by unfold maxLen; omega) (by omega) (by simp; omega) ?_; intro a' cap' w1 hown1 hg1 hat1; have D : Hid (AppTo w base av n cap 4 (xs ++ by8 (be v)) (.returned (.slice a' (n + 4) cap')) w1) := ⟨a', cap', rfl, hown1, grown_trans (grown_trans (grown_alloc w _ _) (grown_alloc _ _ _)) hg1, (by rcases hat1 with h | ⟨g, h, k⟩; exact .inl h; exact .inr ⟨g, h, by simp at k; omega⟩)⟩; clear hown1 hg1 hat1)
  go_ret
  exact D.out
theorem cell_grown {w w' : World} {r : Option Nat} {a : Addr} {u : Value} (h : w.cell? a = some u) (hg : w.grownBy w' r) (hr : r ≠ some a.block) : w'.cell? a = some u := by
  have hlt := block_lt_of_cell h
  rw [← h]
  unfold World.cell?
  rw [hg.block a.block hlt (fun e => hr e.symm)]
theorem add_block' (a : Addr) (n : Nat) : (a.add n).block = a.block := by unfold Addr.add; split <;> rfl
theorem Src.grown {w w' : World} {r : Option Nat} {ax : Option Addr} {l : List Value} (h : Src w ax l) (hg : w.grownBy w' r) (hr : ∀ x, ax = some x → r ≠ some x.block) : Src w' ax l := by
  intro hl
  obtain ⟨ad, rfl, h2⟩ := h hl
  exact ⟨ad, rfl, fun j u hj => cell_grown (h2 j u hj) hg (by rw [add_block']; exact hr ad rfl)⟩

/-- What a clone leaves. -/
def CloneTo (w : World) (n : Nat) (xs : List Value) (e : Ending) (w' : World) : Prop := ∃ a' cap', e = .returned (.slice a' n cap') ∧ w'.ownsRow w.heap.size 5 1 (.slice a' n cap') n xs ∧ w.grownBy w' none
theorem grown_none {a b : World} {g : Nat} (h : a.grownBy b (some g)) (hg : a.heap.size ≤ g) : a.grownBy b none :=
  ⟨h.os, h.tape, h.output, h.size, fun k hk _ => h.block k hk (by intro e; cases e; omega)⟩

set_option maxHeartbeats 400000 in
theorem clone_any (av : Option Addr) (n cap : Nat) (l : List Int) (w : World) (hl : l.length = n) (hs : Src w av (by8 l)) (hnil : av = none → n = 0) (hn : n ≤ 100000000) :
    Calls Yba.prog 6 #[.slice av n cap] w (CloneTo w n (by8 l)) := by
  have kn := fun (w : World) (a : Option Addr) (n c n' c' : Nat) => Lib.run_eql_slice_nil (P := Yba.prog) w 25 5 a n c n' c' Yba.underlying25
  cases av with
  | none =>
    obtain rfl := hnil rfl
    obtain rfl : l = [] := List.eq_nil_of_length_eq_zero hl
    go_enter Yba.func6, Yba.ntmps6
    go_wp2
    go_ret
    exact ⟨none, 0, rfl, World.ownsRow_nil _ _ _ _, grown_self _ _⟩
  | some ad =>
    have HS := hid hs
    clear hs hnil
    go_enter Yba.func6, Yba.ntmps6
    go_wp2_with (at_builtin; refine wpList_append_full rfl (.tmp 5) (.tmp 6) 25 rfl w.heap.size 5 1 1 Yba.underlying25 Yba.row5 (by decide) (some ⟨w.heap.size, 0, none⟩) 0 0 [] rfl (by exact World.ownsRow_lit w #[] 0 (Nat.le_refl _) (Nat.zero_le _) rfl) (some ad) n cap (by8 l) rfl (by rw [by8_length, hl, Nat.mul_one]) (by exact HS.out.grown (grown_alloc w _ none) (fun _ _ => by simp)) (by8_one _) (by unfold maxLen; omega) (by omega) (by simp) ?_; intro a' cap' w1 hown1 hg1 hat1; have D : Hid (CloneTo w n (by8 l) (.returned (.slice a' (0 + n) cap')) w1) := ⟨a', cap', (by rw [Nat.zero_add]), (by simpa using hown1), grown_none (grown_trans (grown_alloc w _ _) hg1) (Nat.le_refl _)⟩; clear hown1 hg1 hat1)
    go_ret
    simp only [Nat.zero_add] at D
    exact D.out
end Go.Proofs.Ybulkeero
