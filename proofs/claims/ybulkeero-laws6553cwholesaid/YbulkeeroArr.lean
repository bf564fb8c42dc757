/- Arrays of bytes, by value: what == says of two of them. -/
import Derived.Test.YbulkeeroRows
import Derived.WalkKit
import Derived.WalkSpells
import Derived.WalkLawsBesides
import Derived.DeepKeys
import Derived.Deep.MidRow
namespace Go.Proofs.Ybulkeero
open Go.RowKit

/-- Bytes as cells. -/
def by8 (l : List Int) : List Value := l.map fun z => .int .u8 z
theorem by8_length (l : List Int) : (by8 l).length = l.length := by simp [by8]
theorem by8_append (a b : List Int) : by8 (a ++ b) = by8 a ++ by8 b := by simp [by8]
theorem by8_one (l : List Int) : ∀ u ∈ by8 l, u.oneCell' = true := fun u hu => by obtain ⟨z, _, rfl⟩ := List.mem_map.1 hu; rfl
theorem by8_at {l : List Int} {i : Nat} (hi : i < l.length) : (by8 l)[i]? = some (.int .u8 (l[i])) := by simp [by8, hi]

theorem part5 (w : World) (xs : List Value) (i : Nat) (z : Int) (h : xs[i]? = some (.int .u8 z)) : (part 5 xs.toArray i).run Yba.prog w = .ok (.int .u8 z) w := by
  simp [part, h]

theorem run_items (w : World) (d : Nat) (xs ys : List Int) : ∀ is : List Nat, (∀ i ∈ is, i < xs.length ∧ i < ys.length) →
    (Op.eqItems (d + 1) 5 1 (by8 xs).toArray (by8 ys).toArray is).run Yba.prog w = .ok (decide (∀ i ∈ is, xs[i]? = ys[i]?)) w
  | [], _ => by simp [Op.eqItems]
  | i :: is, h => by
    obtain ⟨h1, h2⟩ := h i (by simp)
    have ih := run_items w d xs ys is (fun j hj => h j (by simp [hj]))
    simp only [Op.eqItems, Sem.run_bind, Nat.mul_one, part5 w _ i _ (by8_at h1), part5 w _ i _ (by8_at h2), Result.andThen_ok, run_equalIn_int w d 5 .u8 .u8 _ _ Yba.underlying5]
    by_cases hab : xs[i] = ys[i]
    · simp [ih, hab, h1, h2]
    · have : (xs[i] == ys[i]) = false := by simpa using hab
      simp [this, h1, h2, hab]

theorem items_all {n : Nat} {xs ys : List Int} (hx : xs.length = n) (hy : ys.length = n) : (∀ i ∈ List.range n, xs[i]? = ys[i]?) ↔ xs = ys := by
  constructor
  · intro h
    apply List.ext_getElem?
    intro i
    by_cases hi : i < n
    · exact h i (List.mem_range.2 hi)
    · rw [List.getElem?_eq_none (by omega), List.getElem?_eq_none (by omega)]
  · rintro rfl i _
    rfl

theorem Yba.cells5 : Yba.prog.cellsOf 5 = 1 := by kernel_rfl
theorem Yba.info5 : ∃ i, Yba.prog.info? 5 = some i := info_of_underlying Yba.underlying5

theorem eq_arr (w : World) (d t n : Nat) (hu : Yba.prog.underlying t = some (.array n 5)) (xs ys : List Int) (hx : xs.length = n) (hy : ys.length = n) :
    (Op.equalIn (d + 1 + 1) t (.agg (by8 xs).toArray) (.agg (by8 ys).toArray)).run Yba.prog w = .ok (decide (xs = ys)) w := by
  obtain ⟨i, hi⟩ := Yba.info5
  have h1 := run_equalIn_array (P := Yba.prog) w (d + 1) (by8 xs).toArray (by8 ys).toArray hu hi
  have h2 := run_items w d xs ys (List.range n) (fun j hj => by have := List.mem_range.1 hj; omega)
  rw [Yba.cells5] at h1
  rw [h1, h2]
  have h3 : decide (∀ i ∈ List.range n, xs[i]? = ys[i]?) = decide (xs = ys) := decide_eq_decide.2 (items_all hx hy)
  rw [h3]
theorem ten : (10000 : Nat) = 9998 + 1 + 1 := rfl
theorem eql_arr (w : World) (t n : Nat) (hu : Yba.prog.underlying t = some (.array n 5)) (xs ys : List Int) (hx : xs.length = n) (hy : ys.length = n) :
    (binOp .eql t (.agg (by8 xs).toArray) (.agg (by8 ys).toArray)).run Yba.prog w = .ok (.bool (decide (xs = ys))) w := by
  rw [run_eql_struct, ten, eq_arr w 9998 t n hu xs ys hx hy]; rfl
theorem neq_arr (w : World) (t n : Nat) (hu : Yba.prog.underlying t = some (.array n 5)) (xs ys : List Int) (hx : xs.length = n) (hy : ys.length = n) :
    (binOp .neq t (.agg (by8 xs).toArray) (.agg (by8 ys).toArray)).run Yba.prog w = .ok (.bool (!decide (xs = ys))) w := by
  rw [run_neq_struct, ten, eq_arr w 9998 t n hu xs ys hx hy]; rfl
theorem eql27 (w : World) (xs ys : List Int) (hx : xs.length = 20) (hy : ys.length = 20) : (binOp .eql 27 (.agg (by8 xs).toArray) (.agg (by8 ys).toArray)).run Yba.prog w = .ok (.bool (decide (xs = ys))) w := eql_arr w 27 20 Yba.underlying27 xs ys hx hy
theorem neq27 (w : World) (xs ys : List Int) (hx : xs.length = 20) (hy : ys.length = 20) : (binOp .neq 27 (.agg (by8 xs).toArray) (.agg (by8 ys).toArray)).run Yba.prog w = .ok (.bool (!decide (xs = ys))) w := neq_arr w 27 20 Yba.underlying27 xs ys hx hy
theorem neq72 (w : World) (xs ys : List Int) (hx : xs.length = 64) (hy : ys.length = 64) : (binOp .neq 72 (.agg (by8 xs).toArray) (.agg (by8 ys).toArray)).run Yba.prog w = .ok (.bool (!decide (xs = ys))) w := neq_arr w 72 64 Yba.underlying72 xs ys hx hy
end Go.Proofs.Ybulkeero
