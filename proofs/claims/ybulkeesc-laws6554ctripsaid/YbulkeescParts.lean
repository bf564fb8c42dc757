/- The plain law of a spot: what its two halves are. No Go text here. -/
import Derived.Laws.Bits64b
import Derived.WalkKit
namespace Go.Proofs.Ybulkeesc
open Go.RowKit

theorem bits_or_u32_nat (a b : Nat) (ha : a < 4294967296) (hb : b < 4294967296) : bits .or .u32 (a : Int) (b : Int) = ((a ||| b : Nat) : Int) := by
  have hx : a ||| b < 2 ^ 32 := Nat.or_lt_two_pow (by omega) (by omega)
  have h1 : (BitVec.ofInt 32 (a : Int)).toNat = a := by
    rw [BitVec.ofInt_natCast, BitVec.toNat_ofNat]; exact Nat.mod_eq_of_lt (by omega)
  have h2 : (BitVec.ofInt 32 (b : Int)).toNat = b := by
    rw [BitVec.ofInt_natCast, BitVec.toNat_ofNat]; exact Nat.mod_eq_of_lt (by omega)
  show IntKind.u32.wrap ((BitVec.ofInt 32 (a : Int) ||| BitVec.ofInt 32 (b : Int)).toNat : Int) = _
  rw [BitVec.toNat_or, h1, h2, IntKind.wrap_u32]
  omega

theorem or_low (a b : Nat) : (a * 4294967296 ||| b) % 4294967296 = b % 4294967296 := by
  have h := Nat.or_mod_two_pow (a := a * 4294967296) (b := b) (n := 32)
  rw [show (2 : Nat) ^ 32 = 4294967296 from by decide] at h
  rw [h, Nat.mul_mod_left, Nat.zero_or]

theorem or_high (a b : Nat) : (a * 4294967296 ||| b) / 4294967296 = (a ||| b / 4294967296) := by
  have e : ∀ x : Nat, x / 4294967296 = x >>> 32 := fun x => by rw [Nat.shiftRight_eq_div_pow]
  rw [e, e, Nat.shiftRight_or_distrib, ← e (a * 4294967296), Nat.mul_div_cancel _ (by decide)]

def spotV (g q : Int) : Int := bits .or .u64 (g * 4294967296) (IntKind.u64.wrap q)

theorem u64_range (q : Int) : 0 ≤ IntKind.u64.wrap q ∧ IntKind.u64.wrap q < 18446744073709551616 := by
  rw [IntKind.wrap_u64]; omega

theorem spot_facts (g q : Int) (hg0 : 0 ≤ g) (hg1 : g ≤ 4294967295) :
    0 ≤ spotV g q ∧ spotV g q ≤ 18446744073709551615 ∧ spotV g q % 4294967296 = IntKind.u64.wrap q % 4294967296 ∧
      spotV g q / 4294967296 = bits .or .u32 g (IntKind.u64.wrap q / 4294967296) := by
  obtain ⟨hL0, hL1⟩ := u64_range q
  unfold spotV
  generalize IntKind.u64.wrap q = L at *
  obtain ⟨a, rfl⟩ : ∃ a : Nat, g = (a : Int) := ⟨g.toNat, by omega⟩
  obtain ⟨b, rfl⟩ : ∃ b : Nat, L = (b : Int) := ⟨L.toNat, by omega⟩
  have e : (a : Int) * 4294967296 = ((a * 4294967296 : Nat) : Int) := by omega
  rw [e, bits_or_u64_nat _ _ (by omega) (by omega)]
  have e2 : (b : Int) / 4294967296 = ((b / 4294967296 : Nat) : Int) := by omega
  rw [e2, bits_or_u32_nat _ _ (by omega) (by omega)]
  have h1 := or_low a b
  have h2 := or_high a b
  have hx : a * 4294967296 ||| b < 2 ^ 64 := Nat.or_lt_two_pow (by omega) (by omega)
  generalize a * 4294967296 ||| b = S at *
  refine ⟨by omega, by omega, by omega, ?_⟩
  rw [← h2]
  omega

theorem tdiv10 (i : Int) (h0 : -9223372036854775808 ≤ i) (h1 : i ≤ 9223372036854775807) : -922337203685477580 ≤ i.tdiv 10 ∧ i.tdiv 10 ≤ 922337203685477580 := by
  by_cases h : 0 ≤ i
  · rw [Int.tdiv_eq_ediv_of_nonneg h]; omega
  · have := Int.neg_tdiv (-i) 10
    have h2 : (-i).tdiv 10 = -i / 10 := Int.tdiv_eq_ediv_of_nonneg (by omega)
    rw [Int.neg_neg, h2] at this
    omega

end Go.Proofs.Ybulkeesc
