/- A reach: a depth and the bits that lie ahead of it. -/
import Derived.Test.YbulkeeroCplWalk
import Derived.Test.YbulkeeroBuild2
namespace Go.Proofs.Ybulkeero
open Go.RowKit Go.Joins

/-- A byte, its first r bits alone. -/
def mk (b : Int) (r : Nat) : Int := ((b.toNat &&& (255 * 2 ^ (8 - r) % 256) : Nat) : Int)
def preAt (key : List Int) (d j : Nat) : Int := if j < d / 8 then key.getD j 0 else if j = d / 8 then mk (key.getD j 0) (d % 8) else 0
/-- An ID, its first d bits alone. -/
def pre (key : List Int) (d : Nat) : List Int := (List.range 20).map (preAt key d)
theorem pre_length (key : List Int) (d : Nat) : (pre key d).length = 20 := by simp [pre]
theorem pre_get (key : List Int) (d : Nat) {j : Nat} (hj : j < 20) : (pre key d)[j]? = some (preAt key d j) := by unfold pre; rw [List.getElem?_map, List.getElem?_range hj]; rfl
theorem mk_zero (b : Int) : mk b 0 = 0 := by simp [mk]
theorem pre_zero (key : List Int) : pre key 0 = List.replicate 20 0 := by
  apply List.ext_getElem?
  intro j
  by_cases hj : j < 20
  · rw [pre_get _ _ hj, List.getElem?_replicate, if_pos hj]
    unfold preAt
    simp [mk_zero]
  · rw [List.getElem?_eq_none (by rw [pre_length]; omega), List.getElem?_eq_none (by simp; omega)]

theorem mask_step : ∀ (b : Fin 256) (r : Fin 8), (b.val &&& (255 * 2 ^ (8 - r.val) % 256)) ||| (b.val &&& (128 / 2 ^ r.val)) = if r.val = 7 then b.val else b.val &&& (255 * 2 ^ (8 - (r.val + 1)) % 256) := by decide +kernel
/-- One bit more. -/
theorem pre_step {key : List Int} (hb : Byt key) (i j : Nat) : preAt key (i + 1) j = if j = i / 8 then (((preAt key i j).toNat ||| ((key.getD j 0).toNat &&& (128 / 2 ^ (i % 8))) : Nat) : Int) else preAt key i j := by
  have hk : 0 ≤ key.getD j 0 ∧ key.getD j 0 ≤ 255 := by
    rw [List.getD_eq_getElem?_getD]
    cases h : key[j]? with
    | none => simp
    | some z => exact hb z (List.mem_of_getElem? h)
  by_cases hj : j = i / 8
  · rw [if_pos hj]
    have e1 : preAt key i j = mk (key.getD j 0) (i % 8) := by unfold preAt; rw [if_neg (by omega), if_pos hj]
    have hs := mask_step ⟨(key.getD j 0).toNat, by omega⟩ ⟨i % 8, Nat.mod_lt _ (by decide)⟩
    simp only at hs
    rw [e1]
    unfold mk
    rw [Int.toNat_natCast, hs]
    unfold preAt
    by_cases h7 : i % 8 = 7
    · rw [if_pos h7, if_pos (by omega)]
      omega
    · rw [if_neg h7, if_neg (by omega), if_pos (by omega)]
      unfold mk
      rw [show (i + 1) % 8 = i % 8 + 1 by omega]
  · rw [if_neg hj]
    unfold preAt
    by_cases h1 : j < i / 8
    · rw [if_pos h1, if_pos (by omega)]
    · rw [if_neg h1, if_neg hj, if_neg (by omega)]
      by_cases h2 : j = (i + 1) / 8
      · rw [if_pos h2, show (i + 1) % 8 = 0 by omega, mk_zero]
      · rw [if_neg h2]

/-- A reach as a value. -/
def rcells (d : Nat) (P : List Int) : List Value := Value.int .i64 (d : Int) :: by8 P
def rv (d : Nat) (P : List Int) : Value := .agg (rcells d P).toArray
theorem rcells_length (d : Nat) (P : List Int) : (rcells d P).length = P.length + 1 := by simp [rcells, by8]
theorem rcells_one (d : Nat) (P : List Int) : ∀ v ∈ rcells d P, v.oneCell' = true := by
  intro v hv
  rcases List.mem_cons.1 hv with rfl | h
  · rfl
  · exact by8_one _ v h
theorem Yba.size139 : (Yba.prog.info? 139).map (·.size) = some 21 := by kernel_rfl

/-- A reach in memory. -/
structure RAt (b d : Nat) (P : List Int) (w : World) : Prop where
  range : w.rangeAt b 0 (rcells d P)
  there : w.there b 0 21
theorem range_laid {w : World} {b o : Nat} {L vs : List Value} (h : w.rangeAt b 0 L) (ht : w.there b 0 L.length) (hl : o + vs.length ≤ L.length) : (w.setCells b o vs).rangeAt b 0 (laid L o vs) := by
  intro j v hj
  rw [Nat.zero_add]
  by_cases hc : j < o ∨ o + vs.length ≤ j
  · rw [laid_out hl hc] at hj
    rw [World.cell?_setCells_out b vs o w _ (fun _ _ => by rcases hc with hc | hc; exact .inl hc; exact .inr hc)]
    have := h j v hj
    rwa [Nat.zero_add] at this
  · obtain ⟨i, rfl⟩ : ∃ i, j = o + i := ⟨j - o, by omega⟩
    rw [laid_in hl (by omega)] at hj
    have hts : w.there b o vs.length := fun k hk => by
      have := ht (o + k) (by omega)
      rwa [Nat.zero_add] at this
    exact World.rangeAt_setCells_same w b o vs hts i v hj
theorem laid_one (L : List Value) (o : Nat) (v : Value) (ho : o < L.length) : laid L o [v] = L.set o v := by
  apply List.ext_getElem?
  intro j
  by_cases hj : j = o
  · subst hj
    rw [List.getElem?_set_self ho]
    exact laid_in (j := 0) (by simp; omega) (by simp)
  · rw [laid_out (by simp; omega) (by simp; omega), List.getElem?_set_ne (Ne.symm hj)]
theorem rcells_copy (d n : Nat) (P vs : List Int) (hv : vs.length = n) : laid (rcells d P) 1 (by8 vs) = rcells d (vs ++ P.drop n) := by
  unfold laid rcells
  simp [by8, hv, Nat.add_comm 1]
theorem rcells_set (d n : Nat) (P : List Int) (m : Int) (hn : n < P.length) : laid (rcells d P) (1 + n) [.int .u8 m] = rcells d (P.set n m) := by
  rw [laid_one _ _ _ (by rw [rcells_length]; omega)]
  unfold rcells
  rw [Nat.add_comm 1 n, List.set_cons_succ]
  simp [by8]

/-- As within lays it. -/
theorem pre_eq (key : List Int) (d : Nat) (hl : key.length = 20) (hd : d / 8 < 20) : (key.take (d / 8) ++ (List.replicate 20 (0 : Int)).drop (d / 8)).set (d / 8) (mk (key.getD (d / 8) 0) (d % 8)) = pre key d := by
  apply List.ext_getElem?
  intro j
  have hlen : (key.take (d / 8) ++ (List.replicate 20 (0 : Int)).drop (d / 8)).length = 20 := by simp [hl]; omega
  by_cases hj : j < 20
  · rw [pre_get _ _ hj]
    unfold preAt
    by_cases h1 : j = d / 8
    · rw [if_neg (by omega), if_pos h1, h1, List.getElem?_set_self (by omega)]
    · rw [List.getElem?_set_ne (Ne.symm h1)]
      by_cases h2 : j < d / 8
      · rw [if_pos h2, List.getElem?_append_left (by rw [List.length_take]; omega), List.getElem?_take_of_lt h2, List.getD_eq_getElem?_getD, List.getElem?_eq_getElem (by omega)]
        rfl
      · rw [if_neg h2, if_neg h1, List.getElem?_append_right (by rw [List.length_take]; omega), List.getElem?_drop, List.length_take, List.getElem?_replicate, if_pos (by omega)]
  · rw [List.getElem?_eq_none (by rw [List.length_set, hlen]; omega), List.getElem?_eq_none (by rw [pre_length]; omega)]
theorem pre_full (key : List Int) (d : Nat) (hl : key.length = 20) (hd : d / 8 = 20) : key.take (d / 8) ++ (List.replicate 20 (0 : Int)).drop (d / 8) = pre key d := by
  rw [hd, List.take_of_length_le (by omega)]
  simp only [List.drop_replicate, Nat.sub_self, List.replicate_zero, List.append_nil]
  apply List.ext_getElem?
  intro j
  by_cases hj : j < 20
  · rw [pre_get _ _ hj]
    unfold preAt
    rw [if_pos (by omega), List.getD_eq_getElem?_getD, List.getElem?_eq_getElem (by omega)]
    rfl
  · rw [List.getElem?_eq_none (by omega), List.getElem?_eq_none (by rw [pre_length]; omega)]
end Go.Proofs.Ybulkeero
