/- appendPlace (function 31). -/
import Derived.Test.YbulkeeroPlace
namespace Go.Proofs.Ybulkeero
open Go.RowKit Go.Joins

/-- A grown world, the row moved at most to a new block. -/
theorem grown_next {a b c : World} {av a' : Option Addr} {n cap n' cap' : Nat} (h : a.grownBy b (Value.slice av n cap).ownBlock) (k : b.grownBy c (Value.slice a' n' cap').ownBlock) (hat : a' = av ∨ ∃ g, a' = some ⟨g, 0, none⟩ ∧ a.heap.size ≤ g) :
    a.grownBy c (Value.slice av n cap).ownBlock := by
  refine ⟨k.os.trans h.os, k.tape.trans h.tape, k.output.trans h.output, Nat.le_trans h.size k.size, fun i hi hr => (k.block i (Nat.lt_of_lt_of_le hi h.size) ?_).trans (h.block i hi hr)⟩
  rcases hat with rfl | ⟨g, rfl, hg⟩
  · intro e
    apply hr
    obtain ⟨x, hx, hxi⟩ := own_block.1 e.symm
    exact (own_block.2 ⟨x, hx, hxi⟩).symm
  · intro e
    obtain ⟨x, hx, hxi⟩ := own_block.1 e.symm
    cases hx
    simp at hxi
    omega
theorem at_next {a b : World} {r : Option Nat} {av a' a'' : Option Addr} (h : a.grownBy b r) (h1 : a' = av ∨ ∃ g, a' = some ⟨g, 0, none⟩ ∧ a.heap.size ≤ g) (h2 : a'' = a' ∨ ∃ g, a'' = some ⟨g, 0, none⟩ ∧ b.heap.size ≤ g) :
    a'' = av ∨ ∃ g, a'' = some ⟨g, 0, none⟩ ∧ a.heap.size ≤ g := by
  rcases h2 with rfl | ⟨g, rfl, hg⟩
  · exact h1
  · exact .inr ⟨g, rfl, Nat.le_trans h.size hg⟩

/-- What appendPlace has made before it appends: the slot in a block of its own. -/
def BoxOf (w : World) (key : List Int) (kind id : Int) : World := w.alloc (.cells (by8 key ++ [Value.int .u32 kind, Value.int .u32 id]).toArray 142)
theorem boxed (w : World) (key : List Int) (kind id : Int) (hl : key.length = 20) : Src (BoxOf w key kind id) (some ⟨w.heap.size, 0, none⟩) (by8 key) ∧ (BoxOf w key kind id).cell? ⟨w.heap.size, 20, none⟩ = some (.int .u32 kind) ∧ (BoxOf w key kind id).cell? ⟨w.heap.size, 21, none⟩ = some (.int .u32 id) := by
  refine ⟨fun _ => ⟨_, rfl, fun j u hj => ?_⟩, ?_, ?_⟩
  · rw [Go.WideShapes.add_plain, Nat.zero_add]
    unfold BoxOf
    rw [cell_of_block (heap_new w _), List.getElem?_toArray, List.getElem?_append_left (List.getElem?_eq_some_iff.1 hj).1]
    exact hj
  all_goals
    unfold BoxOf
    rw [cell_of_block (heap_new w _), List.getElem?_toArray, List.getElem?_append_right (by rw [by8_length]; omega), by8_length, hl]
    rfl

theorem own_apart {w : World} {base size n cap : Nat} {e : TypeId} {xs : List Value} {av a' : Option Addr} (h : w.ownsRow base e size (.slice av n cap) n xs) (hat : a' = av ∨ ∃ g, a' = some ⟨g, 0, none⟩ ∧ w.heap.size + 1 ≤ g) (n' c' : Nat) : (Value.slice a' n' c').ownBlock ≠ some w.heap.size := by
  intro e
  obtain ⟨x, hx, hxb⟩ := own_block.1 e
  rcases hat with rfl | ⟨g, rfl, hg⟩
  · have := (h.lt _ (own_block.2 ⟨x, hx, hxb⟩)).2
    omega
  · cases hx
    simp at hxb
    omega

theorem place_alloc {w : World} {o : Obj} {av a' : Option Addr} (h : a' = av ∨ ∃ g, a' = some ⟨g, 0, none⟩ ∧ (w.alloc o).heap.size ≤ g) : a' = av ∨ ∃ g, a' = some ⟨g, 0, none⟩ ∧ w.heap.size ≤ g := by
  rcases h with h | ⟨g, h, k⟩
  · exact .inl h
  · exact .inr ⟨g, h, by simp at k; omega⟩

set_option maxHeartbeats 1000000 in
theorem appendPlace_any (base : Nat) (av : Option Addr) (n cap : Nat) (xs : List Value) (key : List Int) (kind id : Int) (w : World) (hl : key.length = 20) (hk0 : 0 ≤ kind) (hk1 : kind ≤ 4294967295) (hi0 : 0 ≤ id) (hi1 : id ≤ 4294967295)
    (hown : w.ownsRow base 5 1 (.slice av n cap) n xs) (hb : base ≤ w.heap.size) (hn : n ≤ 90000000) :
    Calls Yba.prog 31 #[.slice av n cap, .agg (by8 key ++ [Value.int .u32 kind, Value.int .u32 id]).toArray] w (AppTo w base av n cap 28 (xs ++ by8 (key ++ be kind ++ be id))) := by
  have HO := hid hown
  clear hown
  go_enter Yba.func31, Yba.ntmps31
  have HB := hid (boxed w key kind id hl)
  go_wp2_with (first
    | (go_at_call 33; refine (au32_any base _ _ _ _ kind _ hk0 hk1 H1.out.1 (by have := H1.out.2.1.size; simp at this; omega) (by omega)).mono ?_; rintro e w2 ⟨a2, cap2, rfl, hown2, hg2, hat2⟩; have hc2 := cell_grown H1.out.2.2.2 hg2 (by exact own_apart HO.out (by simpa using H1.out.2.2.1) _ _); have H2 := hid (And.intro hown2 (And.intro (grown_next (grown_trans (grown_alloc w _ _) H1.out.2.1) hg2 (place_alloc H1.out.2.2.1)) (at_next (grown_trans (grown_alloc w _ _) H1.out.2.1) (place_alloc H1.out.2.2.1) hat2))); clear hown2 hg2 hat2 H1 hc1)
    | (go_at_call 33; refine (au32_any base _ _ _ _ id _ hi0 hi1 H2.out.1 (by have := H2.out.2.1.size; omega) (by omega)).mono ?_; rintro e w3 ⟨a3, cap3, rfl, hown3, hg3, hat3⟩; have H3 := hid (And.intro hown3 (And.intro (grown_next H2.out.2.1 hg3 H2.out.2.2) (at_next H2.out.2.1 H2.out.2.2 hat3))); clear hown3 hg3 hat3 H2 hc2)
    | (at_builtin; refine wpList_append_full rfl (.tmp 5) (.tmp 7) 25 rfl base 5 1 1 Yba.underlying25 Yba.row5 (by decide) av n cap xs rfl (by exact HO.out.alloc _) (some ⟨w.heap.size, 0, none⟩) 20 20 (by8 key) rfl (by rw [by8_length, hl]) (by exact HB.out.1) (by8_one _) (by unfold maxLen; omega) (by omega) (by simp; omega) ?_; intro a' cap' w1 hown1 hg1 hat1; have hc1 := cell_grown HB.out.2.1 hg1 (by exact own_apart HO.out (.inl rfl) _ _); have H1 := hid (And.intro hown1 (And.intro hg1 (And.intro hat1 (cell_grown HB.out.2.2 hg1 (by exact own_apart HO.out (.inl rfl) _ _))))); clear hown1 hg1 hat1))
  go_ret
  refine ⟨a3, cap3, by rfl, ?_, H3.out.2.1, H3.out.2.2⟩
  have := H3.out.1
  simpa [by8, List.append_assoc, Nat.add_assoc] using this
end Go.Proofs.Ybulkeero
