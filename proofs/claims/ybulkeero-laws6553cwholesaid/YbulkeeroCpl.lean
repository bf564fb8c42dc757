/- The leading bits that two IDs share: the number. -/
import Derived.Test.YbulkeeroBits
namespace Go.Proofs.Ybulkeero
open Go.RowKit Go.Joins

/-- The number that n bytes from o on spell. -/
def wd (l : List Int) (o n : Nat) : Nat := (Lib.beZ ((l.drop o).take n)).toNat
theorem byt_part {l : List Int} (h : Byt l) (o n : Nat) : Byt ((l.drop o).take n) := fun z hz => h z (List.mem_of_mem_drop (List.mem_of_mem_take hz))
theorem part_length {l : List Int} {o n : Nat} (h : o + n ≤ l.length) : ((l.drop o).take n).length = n := by rw [List.length_take, List.length_drop]; omega
theorem wd_lt {l : List Int} {o n : Nat} (hb : Byt l) (h : o + n ≤ l.length) : wd l o n < 2 ^ (8 * n) := by
  have := beZ_bounds _ (byt_part hb o n)
  rw [part_length h] at this
  unfold wd
  have h2 : ((2 ^ (8 * n) : Nat) : Int) = (2 : Int) ^ (8 * n) := by simp
  omega
theorem wd_bit {l : List Int} {o n : Nat} (hb : Byt l) (h : o + n ≤ l.length) {i : Nat} (hi : i < 8 * n) : (wd l o n).testBit (8 * n - 1 - i) = bt l (8 * o + i) := by
  have := beZ_bit _ (byt_part hb o n) i (by rw [part_length h]; exact hi)
  rw [part_length h] at this
  unfold wd
  rw [this]
  unfold bt
  rw [List.getD_eq_getElem?_getD, List.getD_eq_getElem?_getD, List.getElem?_take_of_lt (by omega), List.getElem?_drop, show (8 * o + i) / 8 = o + i / 8 by omega, show (8 * o + i) % 8 = i % 8 by omega]

/-- A word that is the same. -/
theorem word_same {a b : List Int} {o n : Nat} (ha : Byt a) (hb : Byt b) (la : o + n ≤ a.length) (lb : o + n ≤ b.length) (h : wd a o n ^^^ wd b o n = 0) : ∀ i, i < 8 * n → bt a (8 * o + i) = bt b (8 * o + i) := by
  intro i hi
  have e : wd a o n = wd b o n := by
    apply Nat.eq_of_testBit_eq
    intro j
    have : (wd a o n ^^^ wd b o n).testBit j = false := by rw [h]; simp
    rw [Nat.testBit_xor] at this
    revert this
    cases (wd a o n).testBit j <;> cases (wd b o n).testBit j <;> simp
  rw [← wd_bit ha la hi, ← wd_bit hb lb hi, e]
/-- A word that is not. -/
theorem word_diff {a b : List Int} {o n : Nat} (hn : 8 * n ≤ 64) (ha : Byt a) (hb : Byt b) (la : o + n ≤ a.length) (lb : o + n ≤ b.length) (h : wd a o n ^^^ wd b o n ≠ 0) :
    Lib.bitLen (wd a o n ^^^ wd b o n) ≤ 8 * n ∧ 8 * n - Lib.bitLen (wd a o n ^^^ wd b o n) < 8 * n ∧ (∀ i, i < 8 * n - Lib.bitLen (wd a o n ^^^ wd b o n) → bt a (8 * o + i) = bt b (8 * o + i)) ∧ bt a (8 * o + (8 * n - Lib.bitLen (wd a o n ^^^ wd b o n))) ≠ bt b (8 * o + (8 * n - Lib.bitLen (wd a o n ^^^ wd b o n))) := by
  obtain ⟨h1, h2, h3, h4⟩ := word_dep (8 * n) (wd a o n) (wd b o n) hn (wd_lt ha la) (wd_lt hb lb) h
  refine ⟨h1, by omega, fun i hi => ?_, ?_⟩
  · rw [← wd_bit ha la (by omega), ← wd_bit hb lb (by omega)]
    exact h3 i hi
  · rw [← wd_bit ha la (by omega), ← wd_bit hb lb (by omega)]
    rw [show 8 * n - 1 - (8 * n - Lib.bitLen (wd a o n ^^^ wd b o n)) = Lib.bitLen (wd a o n ^^^ wd b o n) - 1 by omega]
    exact h4

/-- As identity.CommonPrefixLen reckons it. -/
def cpl (a b : List Int) : Nat :=
  if wd a 0 8 ^^^ wd b 0 8 ≠ 0 then 64 - Lib.bitLen (wd a 0 8 ^^^ wd b 0 8)
  else if wd a 8 8 ^^^ wd b 8 8 ≠ 0 then 64 + (64 - Lib.bitLen (wd a 8 8 ^^^ wd b 8 8))
  else if wd a 16 4 ^^^ wd b 16 4 ≠ 0 then 128 + (32 - Lib.bitLen (wd a 16 4 ^^^ wd b 16 4))
  else 160
theorem cpl_dep {a b : List Int} (ha : Byt a) (hb : Byt b) (la : a.length = 20) (lb : b.length = 20) : IsDep 160 a b (cpl a b) := by
  unfold cpl
  by_cases h0 : wd a 0 8 ^^^ wd b 0 8 = 0
  · have s0 := word_same ha hb (by omega) (by omega) h0
    rw [if_neg (by simpa using h0)]
    by_cases h1 : wd a 8 8 ^^^ wd b 8 8 = 0
    · have s1 := word_same ha hb (by omega) (by omega) h1
      rw [if_neg (by simpa using h1)]
      by_cases h2 : wd a 16 4 ^^^ wd b 16 4 = 0
      · have s2 := word_same ha hb (by omega) (by omega) h2
        rw [if_neg (by simpa using h2)]
        refine ⟨Nat.le_refl _, fun i hi => ?_, fun h => absurd h (Nat.lt_irrefl _)⟩
        by_cases c1 : i < 64
        · have := s0 i (by omega); simpa using this
        · by_cases c2 : i < 128
          · have := s1 (i - 64) (by omega); rwa [show 8 * 8 + (i - 64) = i by omega] at this
          · have := s2 (i - 128) (by omega); rwa [show 8 * 16 + (i - 128) = i by omega] at this
      · rw [if_pos h2]
        obtain ⟨d1, d2, d3, d4⟩ := word_diff (by decide) ha hb (by omega) (by omega) h2
        refine ⟨by omega, fun i hi => ?_, fun _ => ?_⟩
        · by_cases c1 : i < 64
          · have := s0 i (by omega); simpa using this
          · by_cases c2 : i < 128
            · have := s1 (i - 64) (by omega); rwa [show 8 * 8 + (i - 64) = i by omega] at this
            · have := d3 (i - 128) (by omega); rwa [show 8 * 16 + (i - 128) = i by omega] at this
        · exact d4
    · rw [if_pos h1]
      obtain ⟨d1, d2, d3, d4⟩ := word_diff (by decide) ha hb (by omega) (by omega) h1
      refine ⟨by omega, fun i hi => ?_, fun _ => ?_⟩
      · by_cases c1 : i < 64
        · have := s0 i (by omega); simpa using this
        · have := d3 (i - 64) (by omega); rwa [show 8 * 8 + (i - 64) = i by omega] at this
      · exact d4
  · rw [if_pos h0]
    obtain ⟨d1, d2, d3, d4⟩ := word_diff (by decide) ha hb (by omega) (by omega) h0
    refine ⟨by omega, fun i hi => ?_, fun _ => ?_⟩
    · have := d3 i (by omega); simpa using this
    · simpa using d4
end Go.Proofs.Ybulkeero
