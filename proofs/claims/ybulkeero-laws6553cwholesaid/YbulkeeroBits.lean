/- The bits of an ID, the first that two IDs differ in. -/
import Derived.Test.YbulkeeroShelf
import Derived.Test.YbulkeeroOps
import Derived.Lib.ItoaNum
namespace Go.Proofs.Ybulkeero
open Go.RowKit Go.Joins

/-- Bit i of a row of bytes, the highest of each first. -/
def bt (l : List Int) (i : Nat) : Bool := ((l.getD (i / 8) 0).toNat).testBit (7 - i % 8)
/-- Bytes indeed. -/
def Byt (l : List Int) : Prop := ∀ z ∈ l, 0 ≤ z ∧ z ≤ 255

/-- d is the number of leading bits that are the same. -/
structure IsDep (n : Nat) (a b : List Int) (d : Nat) : Prop where
  le : d ≤ n
  same : ∀ i, i < d → bt a i = bt b i
  diff : d < n → bt a d ≠ bt b d
theorem IsDep.unique {n d e : Nat} {a b : List Int} (h : IsDep n a b d) (k : IsDep n a b e) : d = e := by
  rcases Nat.lt_trichotomy d e with hl | hl | hl
  · exact absurd (k.same d hl) (h.diff (by have := k.le; omega))
  · exact hl
  · exact absurd (h.same e hl) (k.diff (by have := h.le; omega))

theorem snoc_ind {α : Type} {P : List α → Prop} (h0 : P []) (h1 : ∀ l z, P l → P (l ++ [z])) (l : List α) : P l := by
  rw [← List.reverse_reverse l]
  induction l.reverse with
  | nil => exact h0
  | cons z r ih => rw [List.reverse_cons]; exact h1 _ _ ih
theorem beFromZ_append (l : List Int) (z acc : Int) : Lib.beFromZ acc (l ++ [z]) = Lib.beFromZ acc l * 256 + z := by
  induction l generalizing acc with
  | nil => simp [Lib.beFromZ]
  | cons x l ih => simp only [List.cons_append, Lib.beFromZ]; rw [ih]
theorem beZ_append (l : List Int) (z : Int) : Lib.beZ (l ++ [z]) = Lib.beZ l * 256 + z := beFromZ_append l z 0
theorem beZ_bounds (l : List Int) : Byt l → 0 ≤ Lib.beZ l ∧ Lib.beZ l < 2 ^ (8 * l.length) := by
  refine snoc_ind (P := fun l => Byt l → 0 ≤ Lib.beZ l ∧ Lib.beZ l < 2 ^ (8 * l.length)) ?_ ?_ l
  · intro _; simp [Lib.beZ, Lib.beFromZ]
  · intro l z ih h
    have h1 := ih (fun x hx => h x (by simp [hx]))
    have h2 := h z (by simp)
    rw [beZ_append]
    rw [List.length_append, List.length_singleton, show 8 * (l.length + 1) = 8 * l.length + 8 by omega, Int.pow_add]
    omega
theorem testBit_low (x z j : Nat) (hz : z < 256) (hj : j < 8) : (x * 256 + z).testBit j = z.testBit j := by
  rw [show x * 256 + z = 2 ^ 8 * x + z by omega, Nat.testBit_two_pow_mul_add _ hz, if_pos hj]
theorem testBit_high (x z j : Nat) (hz : z < 256) : (x * 256 + z).testBit (8 + j) = x.testBit j := by
  rw [show x * 256 + z = 2 ^ 8 * x + z by omega, Nat.testBit_two_pow_mul_add _ hz, if_neg (by omega)]
  congr 1
  omega

/-- A number's bits are its bytes' bits. -/
theorem beZ_bit (l : List Int) : Byt l → ∀ i, i < 8 * l.length → (Lib.beZ l).toNat.testBit (8 * l.length - 1 - i) = bt l i := by
  refine snoc_ind (P := fun l => Byt l → ∀ i, i < 8 * l.length → (Lib.beZ l).toNat.testBit (8 * l.length - 1 - i) = bt l i) ?_ ?_ l
  · intro _ i hi; simp at hi
  · intro l z ih h i hi
    have hl : Byt l := fun x hx => h x (by simp [hx])
    have h1 := beZ_bounds l hl
    have h2 := h z (by simp)
    rw [List.length_append, List.length_singleton] at hi ⊢
    have e : (Lib.beZ (l ++ [z])).toNat = (Lib.beZ l).toNat * 256 + z.toNat := by rw [beZ_append]; omega
    rw [e]
    by_cases hc : i < 8 * l.length
    · rw [show 8 * (l.length + 1) - 1 - i = 8 + (8 * l.length - 1 - i) by omega, testBit_high _ _ _ (by omega), ih hl i hc]
      unfold bt
      rw [List.getD_eq_getElem?_getD, List.getD_eq_getElem?_getD, List.getElem?_append_left (by omega)]
    · rw [testBit_low _ _ _ (by omega) (by omega)]
      unfold bt
      rw [List.getD_eq_getElem?_getD, List.getElem?_append_right (by omega), show i / 8 - l.length = 0 by omega]
      simp only [List.getElem?_cons_zero, Option.getD_some]
      congr 1
      omega

/-- The highest bit that two numbers differ in. -/
theorem word_dep (n A B : Nat) (hn : n ≤ 64) (hA : A < 2 ^ n) (hB : B < 2 ^ n) (hx : A ^^^ B ≠ 0) : Lib.bitLen (A ^^^ B) ≤ n ∧ 1 ≤ Lib.bitLen (A ^^^ B) ∧ (∀ i, i < n - Lib.bitLen (A ^^^ B) → A.testBit (n - 1 - i) = B.testBit (n - 1 - i)) ∧ A.testBit (Lib.bitLen (A ^^^ B) - 1) ≠ B.testBit (Lib.bitLen (A ^^^ B) - 1) := by
  have hX : A ^^^ B < 2 ^ n := Nat.xor_lt_two_pow hA hB
  have h64 : A ^^^ B < 2 ^ 64 := Nat.lt_of_lt_of_le hX (Nat.pow_le_pow_right (by decide) hn)
  obtain ⟨b1, b2, b3⟩ := Lib.bitLenAux_bounds 64 (A ^^^ B) h64 hx
  change 1 ≤ Lib.bitLen (A ^^^ B) at b1
  change 2 ^ (Lib.bitLen (A ^^^ B) - 1) ≤ A ^^^ B at b2
  change A ^^^ B < 2 ^ Lib.bitLen (A ^^^ B) at b3
  refine ⟨Lib.bitLen_le _ n hn hX, b1, fun i hi => ?_, fun e => ?_⟩
  · have h1 : (A ^^^ B).testBit (n - 1 - i) = false := Nat.testBit_lt_two_pow (Nat.lt_of_lt_of_le b3 (Nat.pow_le_pow_right (by decide) (by omega)))
    rw [Nat.testBit_xor] at h1
    revert h1
    cases A.testBit (n - 1 - i) <;> cases B.testBit (n - 1 - i) <;> simp
  · have h1 : (A ^^^ B).testBit (Lib.bitLen (A ^^^ B) - 1) = false := by rw [Nat.testBit_xor, e]; simp
    have : A ^^^ B < 2 ^ (Lib.bitLen (A ^^^ B) - 1) := Nat.lt_pow_two_of_testBit _ (fun j hj => by
      rcases Nat.lt_or_ge j (Lib.bitLen (A ^^^ B)) with h2 | h2
      · rw [show j = Lib.bitLen (A ^^^ B) - 1 by omega]; exact h1
      · exact Nat.testBit_lt_two_pow (Nat.lt_of_lt_of_le b3 (Nat.pow_le_pow_right (by decide) h2)))
    omega
end Go.Proofs.Ybulkeero
