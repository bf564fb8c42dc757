/- The router: seven cells, five rows of its own. -/
import Derived.Test.YbulkeeroOrd
namespace Go.Proofs.Ybulkeero
open Go.RowKit Go.Joins

theorem owns_other {w : World} {base size n : Nat} {e : TypeId} {v : Value} {xs : List Value} (h : w.ownsRow base e size v n xs) {p : Addr} (hp : v.ownBlock ≠ some p.block) (u : Value) : (w.setCell p u).ownsRow base e size v n xs := by
  obtain ⟨hl, hh | ⟨g, cap, cur, rfl, hb, hh, h1, h2, h3, h4⟩⟩ := h
  · exact ⟨hl, .inl hh⟩
  · refine ⟨hl, .inr ⟨g, cap, cur, rfl, hb, ?_, h1, h2, h3, h4⟩⟩
    rw [Below.heap_setCell _ _ _ _ (fun e => hp (by rw [← e]; rfl))]
    exact hh

/-- A row: where it lies, its length and capacity, what it holds. -/
structure Row where
  a : Option Addr
  n : Nat
  c : Nat
  xs : List Value
def Row.val (r : Row) : Value := .slice r.a r.n r.c
def nilRow : Row := ⟨none, 0, 0, []⟩
def rE : Nat → TypeId
  | 2 => 3
  | 5 => 25
  | _ => 27
def rS : Nat → Nat
  | 2 => 1
  | 5 => 1
  | _ => 20
def upd (s : Nat → Row) (k : Nat) (r : Row) : Nat → Row := fun i => if i = k then r else s i
theorem upd_same (s : Nat → Row) (k : Nat) (r : Row) : upd s k r k = r := by simp [upd]
theorem upd_other (s : Nat → Row) {k i : Nat} (r : Row) (h : i ≠ k) : upd s k r i = s i := by simp [upd, h]

structure RtAt (B rb : Nat) (idv : Value) (w : World) (s : Nat → Row) : Prop where
  lt : rb < B
  size : B ≤ w.heap.size
  blk : w.heap[rb]? = some (.cells #[idv, (s 1).val, (s 2).val, (s 3).val, (s 4).val, (s 5).val, .int .i64 0] 33 (0, 0))
  own : ∀ k, w.ownsRow B (rE k) (rS k) (s k).val (s k).n (s k).xs
  sep : ∀ k l, k ≠ l → ∀ b, (s k).val.ownBlock = some b → (s l).val.ownBlock ≠ some b

theorem RtAt.cell {B rb : Nat} {idv : Value} {w : World} {s : Nat → Row} (h : RtAt B rb idv w s) : w.cell? ⟨rb, 0, none⟩ = some idv ∧ w.cell? ⟨rb, 1, none⟩ = some (s 1).val ∧ w.cell? ⟨rb, 2, none⟩ = some (s 2).val ∧ w.cell? ⟨rb, 3, none⟩ = some (s 3).val ∧ w.cell? ⟨rb, 4, none⟩ = some (s 4).val ∧ w.cell? ⟨rb, 5, none⟩ = some (s 5).val ∧ w.cell? ⟨rb, 6, none⟩ = some (.int .i64 0) := by
  refine ⟨?_, ?_, ?_, ?_, ?_, ?_, ?_⟩ <;> rw [cell_of_block h.blk] <;> rfl
theorem RtAt.thaw {B rb : Nat} {idv : Value} {w : World} {s : Nat → Row} (h : RtAt B rb idv w s) (o : Nat) : w.frozen? ⟨rb, o, none⟩ = false := unfrozen_of_block h.blk _
theorem RtAt.rbLt {B rb : Nat} {idv : Value} {w : World} {s : Nat → Row} (h : RtAt B rb idv w s) : rb < w.heap.size := Nat.lt_of_lt_of_le h.lt h.size

/-- What may be changed, and what not. -/
structure Fr (w w' : World) (may : Nat → Prop) : Prop where
  os : w'.os = w.os
  tape : w'.tape = w.tape
  output : w'.output = w.output
  size : w.heap.size ≤ w'.heap.size
  block : ∀ k, k < w.heap.size → ¬ may k → w'.heap[k]? = w.heap[k]?

theorem Fr.refl (w : World) (may : Nat → Prop) : Fr w w may := ⟨rfl, rfl, rfl, Nat.le_refl _, fun _ _ _ => rfl⟩
theorem Fr.cell {w w' : World} {may : Nat → Prop} (h : Fr w w' may) {a : Addr} {u : Value} (hc : w.cell? a = some u) (hm : ¬ may a.block) : w'.cell? a = some u := by
  have hlt := block_lt_of_cell hc
  rw [← hc]
  unfold World.cell?
  rw [h.block a.block hlt hm]

/-- From one state of the router to a later one. -/
structure Moved (B rb : Nat) (idv : Value) (w : World) (s : Nat → Row) (w' : World) (s' : Nat → Row) : Prop where
  rt : RtAt B rb idv w' s'
  fr : Fr w w' (fun j => j = rb ∨ ∃ k, (s k).val.ownBlock = some j)
  from' : ∀ k b, (s' k).val.ownBlock = some b → (s k).val.ownBlock = some b ∨ w.heap.size ≤ b

theorem Moved.refl {B rb : Nat} {idv : Value} {w : World} {s : Nat → Row} (h : RtAt B rb idv w s) : Moved B rb idv w s w s := ⟨h, Fr.refl _ _, fun _ _ h => .inl h⟩
theorem Moved.trans {B rb : Nat} {idv : Value} {w w' w'' : World} {s s' s'' : Nat → Row} (h : Moved B rb idv w s w' s') (k : Moved B rb idv w' s' w'' s'') : Moved B rb idv w s w'' s'' := by
  refine ⟨k.rt, ⟨k.fr.os.trans h.fr.os, k.fr.tape.trans h.fr.tape, k.fr.output.trans h.fr.output, Nat.le_trans h.fr.size k.fr.size, fun j hj hm => (k.fr.block j (Nat.lt_of_lt_of_le hj h.fr.size) ?_).trans (h.fr.block j hj hm)⟩, fun i b hb => ?_⟩
  · rintro (rfl | ⟨i, hi⟩)
    · exact hm (.inl rfl)
    · rcases h.from' i j hi with h1 | h1
      · exact hm (.inr ⟨i, h1⟩)
      · omega
  · rcases k.from' i b hb with h1 | h1
    · exact h.from' i b h1
    · exact .inr (Nat.le_trans h.fr.size h1)

/-- New blocks alone. -/
theorem RtAt.grown {B rb : Nat} {idv : Value} {w w' : World} {s : Nat → Row} (h : RtAt B rb idv w s) (hg : w.grownBy w' none) : RtAt B rb idv w' s :=
  ⟨h.lt, Nat.le_trans h.size hg.size, by rw [hg.block rb h.rbLt (by simp)]; exact h.blk, fun k => (h.own k).kept hg (by cases (s k).val.ownBlock with | none => exact .inl rfl | some b => exact .inr (by simp)), h.sep⟩
theorem Moved.grown {B rb : Nat} {idv : Value} {w w' : World} {s : Nat → Row} (h : RtAt B rb idv w s) (hg : w.grownBy w' none) : Moved B rb idv w s w' s :=
  ⟨h.grown hg, ⟨hg.os, hg.tape, hg.output, hg.size, fun k hk _ => hg.block k hk (by simp)⟩, fun _ _ h => .inl h⟩
theorem Moved.alloc {B rb : Nat} {idv : Value} {w w' : World} {s s' : Nat → Row} (h : Moved B rb idv w s w' s') (o : Obj) : Moved B rb idv w s (w'.alloc o) s' := h.trans (Moved.grown h.rt (grown_alloc _ _ _))
theorem grown_drew (w : World) : w.grownBy w.drew none := ⟨rfl, rfl, rfl, Nat.le_refl _, fun _ _ _ => rfl⟩
theorem Moved.drew {B rb : Nat} {idv : Value} {w w' : World} {s s' : Nat → Row} (h : Moved B rb idv w s w' s') : Moved B rb idv w s w'.drew s' := h.trans (Moved.grown h.rt (grown_drew _))

/-- An append onto row k, and its new value laid into the router's cell. -/
theorem RtAt.app {B rb k : Nat} {idv : Value} {w w1 : World} {s : Nat → Row} (h : RtAt B rb idv w s) (hk1 : 1 ≤ k) (hk5 : k ≤ 5) (r : Row) (hg : w.grownBy w1 (s k).val.ownBlock)
    (hown : w1.ownsRow B (rE k) (rS k) r.val r.n r.xs) (hat : r.a = (s k).a ∨ ∃ g, r.a = some ⟨g, 0, none⟩ ∧ w.heap.size ≤ g) : Moved B rb idv w s (w1.setCell ⟨rb, k, none⟩ r.val) (upd s k r) := by
  have hnew : ∀ b, r.val.ownBlock = some b → (s k).val.ownBlock = some b ∨ w.heap.size ≤ b := by
    intro b hb
    obtain ⟨x, hx, hxb⟩ := own_block.1 hb
    rcases hat with hat | ⟨g, hat, hge⟩
    · exact .inl (own_block.2 ⟨x, hat ▸ hx, hxb⟩)
    · right
      rw [hat] at hx
      cases hx
      simp at hxb
      omega
  have hne : (s k).val.ownBlock ≠ some rb := fun e => by have := ((h.own k).lt _ e).1; have := h.lt; omega
  have hsz : (w1.setCell ⟨rb, k, none⟩ r.val).heap.size = w1.heap.size := by simp [World.setCell]
  have hb1 : w1.heap[rb]? = _ := (hg.block rb h.rbLt (Ne.symm hne)).trans h.blk
  refine ⟨⟨h.lt, ?_, ?_, fun i => ?_, fun i j hij b hi hj => ?_⟩, ⟨?_, ?_, ?_, ?_, fun j hj hm => ?_⟩, fun i b hb => ?_⟩
  · rw [hsz]; exact Nat.le_trans h.size hg.size
  · rw [block_setCell hb1]
    have : k = 1 ∨ k = 2 ∨ k = 3 ∨ k = 4 ∨ k = 5 := by omega
    rcases this with rfl | rfl | rfl | rfl | rfl <;> rfl
  · by_cases e : i = k
    · subst e
      rw [upd_same]
      exact owns_other hown (fun e => by have := (hown.lt _ e).1; have := h.lt; simp only at *; omega) _
    · rw [upd_other _ _ e]
      refine owns_other ((h.own i).kept hg ?_) (fun e => by have := ((h.own i).lt _ e).1; have := h.lt; simp only at *; omega) _
      cases hb : (s i).val.ownBlock with
      | none => exact .inl rfl
      | some b => exact .inr (fun e' => h.sep i k e b hb e'.symm)
  · by_cases e : i = k
    · subst e
      have e' : j ≠ i := Ne.symm hij
      rw [upd_same] at hi
      rw [upd_other _ _ e'] at hj
      rcases hnew b hi with h1 | h1
      · exact h.sep i j hij b h1 hj
      · have := ((h.own j).lt _ hj).2; omega
    · rw [upd_other _ _ e] at hi
      by_cases e' : j = k
      · subst e'
        rw [upd_same] at hj
        rcases hnew b hj with h1 | h1
        · exact h.sep i j hij b hi h1
        · have := ((h.own i).lt _ hi).2; omega
      · rw [upd_other _ _ e'] at hj
        exact h.sep i j hij b hi hj
  · exact (show (w1.setCell _ _).os = w1.os from by simp [World.setCell]).trans hg.os
  · exact (show (w1.setCell _ _).tape = w1.tape from by simp [World.setCell]).trans hg.tape
  · exact (show (w1.setCell _ _).output = w1.output from by simp [World.setCell]).trans hg.output
  · rw [hsz]; exact hg.size
  · rw [Below.heap_setCell _ _ _ _ (fun e => hm (.inl e))]
    exact hg.block j hj (fun e => hm (.inr ⟨k, e.symm⟩))
  · by_cases e : i = k
    · subst e
      rw [upd_same] at hb
      exact hnew b hb
    · rw [upd_other _ _ e] at hb
      exact .inl hb
end Go.Proofs.Ybulkeero
