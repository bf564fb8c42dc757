/- append(rooms, make([]uint32, k)...). -/
import Derived.Test.YbulkeeroMap2
import Derived.Lib.AppendZerosOnto
namespace Go.Proofs.Ybulkeero
open Go.RowKit Go.Joins

theorem Yba.row23 : (Yba.prog.info? 23).map (fun i => (i.zero, i.size, i.bytes)) = some (some (.int .u32 0), 1, 4) := by kernel_rfl
/-- k zeros. -/
def zs32 (k : Nat) : List Value := List.replicate k (.int .u32 0)
theorem zeroCells32 (k : Nat) : Builtin.zeroCells #[Value.int .u32 0] k = (zs32 k).toArray := by
  apply Array.ext
  · simp [Builtin.zeroCells, zs32]
  · intro i h1 h2
    simp [Builtin.zeroCells, zs32, Nat.mod_one]
theorem zs32_length (k : Nat) : (zs32 k).length = k := by simp [zs32]
theorem zs32_one (k : Nat) : ∀ u ∈ zs32 k, u.oneCell' = true := fun u hu => by rw [List.eq_of_mem_replicate hu]; rfl

theorem run_zeros (w : World) (ty base : Nat) (a : Option Addr) (n cap k : Nat) (xs : List Value) (hown : w.ownsRow base 23 1 (.slice a n cap) n xs) (h63 : n + k ≤ 1000000000) (hbase : base ≤ w.heap.size) :
    ∃ a' cap' w', (Builtin.append_ #[47, 3] ty #[.slice a n cap, .int .i64 (k : Int)]).run Yba.prog w = .ok (.slice a' (n + k) cap') w' ∧ w'.ownsRow base 23 1 (.slice a' (n + k) cap') (n + k) (xs ++ zs32 k) ∧ w.grownBy w' (Value.slice a n cap).ownBlock ∧ (a' = a ∨ ∃ g, a' = some ⟨g, 0, none⟩ ∧ w.heap.size ≤ g) := by
  obtain ⟨i, hi, he⟩ := Option.map_eq_some_iff.1 Yba.row23
  simp only [Prod.mk.injEq] at he
  obtain ⟨hz, hs, hb⟩ := he
  have hw : IntKind.i64.wrap (k : Int) = k := by rw [IntKind.wrap_i64]; omega
  have hneg : ¬ ((k : Int) < 0) := by omega
  have h48i : ¬ (281474976710656 < (k : Int) * (4 : Int)) := by omega
  rcases Nat.eq_zero_or_pos k with rfl | hk
  · refine ⟨a, cap, w, ?_, by simpa [zs32] using hown, grown_self _ _, .inl rfl⟩
    have hnc : n ≤ cap := owns_cap hown
    have w0 : IntKind.i64.wrap 0 = 0 := by rw [IntKind.wrap_i64]; rfl
    cases a <;> simp [Builtin.append_, run_underlying Yba.underlying47, run_underlying Yba.underlying3, sizeOf, typeInfo, hi, hb, asInt, asIntOf, hnc, storeCells, w0]
  · by_cases hroom : n + k ≤ cap
    · rcases hown.2 with ⟨h0, _⟩ | ⟨g, cap0, cur, hv, hbg, hh, hnc, hcm, hcs, htk⟩
      · cases h0; omega
      · cases hv
        have hst := run_storeCells_at Yba.prog g n 23 (zs32 k) 0 cur w hh (by rw [zs32_length]; omega) (zs32_one k)
        simp only [Nat.add_zero] at hst
        have hkz : ¬ (k * 1 = 0) := by omega
        have hlen : (xs ++ zs32 k).length = n + k := by rw [List.length_append, zs32_length, hown.1]; omega
        refine ⟨some ⟨g, 0, none⟩, cap, _, ?_, ⟨by rw [hlen]; omega, .inr ⟨g, cap, _, rfl, hbg, setRow_heap w g cur (cur.toList.take n ++ zs32 k ++ cur.toList.drop (n + (zs32 k).length)).toArray 23 _ hh, hroom, hcm, ?_, ?_⟩⟩, ⟨rfl, rfl, rfl, by simp [World.setRow], fun j _ hj => setRow_other w g j _ (fun e => hj (by simp [Value.ownBlock, e]))⟩, .inl rfl⟩
        · have hk0 : ¬ k = 0 := by omega
          simp [Builtin.append_, run_underlying Yba.underlying47, run_underlying Yba.underlying3, sizeOf, typeInfo, zeroValue, hi, hz, hs, hb, asInt, asIntOf, hw, hneg, h48i, hroom, hk0, Value.cells, zeroCells32, Addr.add_lit, hst]
        · simp only [List.size_toArray, List.length_append, List.length_take, List.length_drop, Array.length_toList, zs32_length]
          omega
        · have ht : cur.toList.take n = xs := by simpa using htk
          rw [ht, Nat.mul_one, ← hlen]
          exact List.take_left
    · have hold : (Builtin.firstCells i.size n (.slice a n cap)).run Yba.prog w.drew = .ok xs.toArray w.drew := by
        rw [hs]
        cases a with
        | none =>
          rcases hown.2 with ⟨h0, hn0⟩ | ⟨g, cap0, cur, hv, _⟩
          · subst hn0
            have : xs = [] := List.eq_nil_of_length_eq_zero (by simpa using hown.1)
            subst this
            simp [Builtin.firstCells]
          · cases hv
        | some ad => exact run_firstCells_some (P := Yba.prog) w.drew 1 n ad n cap xs hown.1 (by
            rcases hown.2 with ⟨h0, _⟩ | ⟨g, cap0, cur, hv, _⟩
            · cases h0
            · cases hv; exact hown.cells (g := g) rfl)
      have hr := Lib.run_append_grow_zeros (P := Yba.prog) w 47 3 ty 23 i (.int .u32 0) .i64 .i64 Yba.underlying47 Yba.underlying3 hi hz a n cap xs hold k hk (by omega) (by omega) (by omega) (by rw [hb]; omega) (by rw [hb]; exact growslice_fits (by omega) (by omega))
      have hlen : (xs ++ zs32 k).length = n + k := by rw [List.length_append, zs32_length, hown.1]; omega
      refine ⟨_, _, _, hr, ⟨by rw [hlen]; omega, .inr ⟨w.heap.size, _, _, rfl, hbase, heap_alloc_new w.drew _, grownCap_ge _ _ _ _, grownCap_le_maxLen _ _ _ _ (by unfold maxLen; omega), ?_, ?_⟩⟩, ⟨rfl, rfl, rfl, by simp, fun j hj _ => Below.heap_alloc w.drew _ j hj⟩, .inr ⟨_, rfl, Nat.le_refl _⟩⟩
      · have hge := grownCap_ge w (n + k) cap 23
        have hx1 := hown.1
        simp only [Array.size_append, List.size_toArray, size_zeroCells, Value.cells]
        simp
        omega
      · have hzc : Builtin.zeroCells (Value.int .u32 0).cells k = (zs32 k).toArray := zeroCells32 k
        rw [hzc]
        simp only [Array.toList_append, List.append_assoc]
        rw [← List.append_assoc, Nat.mul_one, ← hlen]
        exact List.take_left
end Go.Proofs.Ybulkeero
