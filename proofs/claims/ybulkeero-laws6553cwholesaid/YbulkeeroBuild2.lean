/- A struct built out of parts, some of them arrays. -/
import Derived.Test.YbulkeeroEq
namespace Go.Proofs.Ybulkeero
open Go.RowKit Go.Joins

/-- 'vs' laid over 'L' from place 'off' on. -/
def laid (L : List Value) (off : Nat) (vs : List Value) : List Value := L.take off ++ vs ++ L.drop (off + vs.length)
theorem laid_length {L : List Value} {off : Nat} {vs : List Value} (h : off + vs.length ≤ L.length) : (laid L off vs).length = L.length := by
  unfold laid
  simp
  omega
theorem laid_in {L : List Value} {off : Nat} {vs : List Value} (h : off + vs.length ≤ L.length) {j : Nat} (hj : j < vs.length) : (laid L off vs)[off + j]? = vs[j]? := by
  unfold laid
  rw [List.append_assoc, List.getElem?_append_right (by rw [List.length_take]; omega), List.length_take, show off + j - min off L.length = j by omega, List.getElem?_append_left hj]
theorem laid_out {L : List Value} {off : Nat} {vs : List Value} (h : off + vs.length ≤ L.length) {j : Nat} (hj : j < off ∨ off + vs.length ≤ j) : (laid L off vs)[j]? = L[j]? := by
  unfold laid
  rcases hj with hj | hj
  · rw [List.append_assoc, List.getElem?_append_left (by rw [List.length_take]; omega), List.getElem?_take_of_lt hj]
  · rw [List.getElem?_append_right (by rw [List.length_append, List.length_take]; omega), List.length_append, List.length_take, List.getElem?_drop]
    congr 1
    omega

theorem foldl_set (off : Nat) : ∀ (vs : List Value) (k : Nat) (L : List Value), off + k + vs.length ≤ L.length → (vs.zipIdx k).foldl (fun (cs : Array Value) (x : Value × Nat) => cs.setIfInBounds (off + x.2) x.1) L.toArray = (laid L (off + k) vs).toArray
  | [], k, L, _ => by simp [laid]
  | v :: vs, k, L, h => by
    simp only [List.length_cons] at h
    rw [List.zipIdx_cons, List.foldl_cons, List.setIfInBounds_toArray, foldl_set off vs (k + 1) (L.set (off + k) v) (by rw [List.length_set]; omega)]
    congr 1
    apply List.ext_getElem?
    intro j
    have hl : (L.set (off + k) v).length = L.length := List.length_set
    by_cases h1 : j < off + k
    · rw [laid_out (by omega) (.inl (by omega)), laid_out (by simp; omega) (.inl (by omega)), List.getElem?_set_ne (by omega)]
    · by_cases h2 : off + k + 1 + vs.length ≤ j
      · rw [laid_out (by omega) (.inr (by omega)), laid_out (by simp; omega) (.inr (by simp; omega)), List.getElem?_set_ne (by omega)]
      · by_cases h3 : j = off + k
        · subst h3
          rw [laid_out (by omega) (.inl (by omega)), List.getElem?_set_self (by omega)]
          have := laid_in (L := L) (off := off + k) (vs := v :: vs) (by simp; omega) (j := 0) (by simp)
          simpa using this.symm
        · obtain ⟨i, rfl⟩ : ∃ i, j = off + (k + 1) + i := ⟨j - (off + (k + 1)), by omega⟩
          rw [laid_in (by omega) (by omega)]
          have := laid_in (L := L) (off := off + k) (vs := v :: vs) (by simp; omega) (j := i + 1) (by simp; omega)
          rw [show off + (k + 1) + i = off + k + (i + 1) by omega, this]
          simp

theorem fill_cons {place : Nat → Option (Nat × Nat)} {L : List Value} {i off size : Nat} {v : Value} {vs : List Value} {rest : List (Nat × Value)} (hp : place i = some (off, size)) (hv : v.cells = vs.toArray) (hs : vs.length = size) (hl : off + vs.length ≤ L.length) :
    Instr.fill place L.toArray ((i, v) :: rest) = Instr.fill place (laid L off vs).toArray rest := by
  have e : v.cells.zipIdx.foldl (fun (cs : Array Value) (x : Value × Nat) => cs.setIfInBounds (off + x.2) x.1) L.toArray = (laid L off vs).toArray := by
    rw [hv, ← Array.foldl_toList]
    have := foldl_set off vs 0 L (by omega)
    simpa using this
  rw [Instr.fill, hp]
  simp only
  rw [if_neg (by rw [hv]; simp; omega)]
  rw [← e]

theorem run_build {P : Program} (w : World) (t : TypeId) (parts : Array (Nat × Value)) (N : Nat) (fields : Array Field) (places : Array (Nat × Nat)) (hz : (P.info? t).map (fun i => i.zero.map (·.cells.size)) = some (some N)) (hu : P.underlying t = some (.struct fields))
    (hp : (fields.mapM (fun f => Prod.mk f.offset <$> sizeOf f.type : Field → Sem (Nat × Nat))).run P w = .ok places w) (R : Array Value → Prop)
    (h : ∀ Z : List Value, Z.length = N → ∃ C, Instr.fill (places[·]?) Z.toArray parts.toList = some C ∧ R C) : ∃ C, (Instr.build t parts).run P w = .ok (.agg C) w ∧ R C := by
  obtain ⟨i, hi, hz'⟩ := Option.map_eq_some_iff.1 hz
  obtain ⟨z, hz1, hz2⟩ := Option.map_eq_some_iff.1 hz'
  obtain ⟨C, hC, hR⟩ := h z.cells.toList (by simpa using hz2)
  refine ⟨C, ?_, hR⟩
  have hC' : Instr.fill (places[·]?) z.cells parts.toList = some C := hC
  simp [Instr.build, zeroValue, typeInfo, hi, hz1, run_underlying hu, hp, hC']

theorem getPlace {places : Array (Nat × Nat)} {i : Nat} {x : Nat × Nat} (h : places[i]? = some x) : (fun j => places[j]?) i = some x := h

/-- The store's cells, as far as anyone looks. -/
structure StoreCells (rb : Nat) (me : List Int) (reps : Nat) (C : Array Value) : Prop where
  size : C.size = 57
  iface : C[0]? = some (rtv rb)
  mine : ∀ j v, (by8 me)[j]? = some v → C[3 + j]? = some v
  reps : C[23]? = some (.int .i64 (reps : Int))

theorem build69 (w : World) (rb reps : Nat) (me : List Int) (hme : me.length = 20) : ∃ C, (Instr.build 69 #[(0, rtv rb), (3, .agg (by8 me).toArray), (4, .int .i64 (reps : Int))]).run Yba.prog w = .ok (.agg C) w ∧ StoreCells rb me reps C := by
  refine run_build w 69 _ 57 _ #[(0, 1), (1, 1), (2, 1), (3, 20), (23, 1), (24, 1), (25, 1), (26, 3), (29, 3), (32, 1), (33, 1), (34, 1), (35, 1), (36, 1), (37, 1), (38, 1), (39, 1), (40, 1), (41, 1), (42, 1), (43, 1), (44, 1), (45, 1), (46, 1), (47, 1), (48, 3), (51, 1), (52, 1), (53, 1), (54, 1), (55, 1), (56, 1)] (by kernel_rfl) Yba.underlying69 (by kernel_rfl) _ (fun Z hZ => ?_)
  have l1 : (laid Z 0 [rtv rb]).length = 57 := by rw [laid_length (by simp; omega), hZ]
  have l2 : (laid (laid Z 0 [rtv rb]) 3 (by8 me)).length = 57 := by rw [laid_length (by rw [by8_length]; omega), l1]
  have l3 : (laid (laid (laid Z 0 [rtv rb]) 3 (by8 me)) 23 [.int .i64 (reps : Int)]).length = 57 := by rw [laid_length (by simp; omega), l2]
  refine ⟨_, (fill_cons (vs := [rtv rb]) rfl rfl rfl (by simp; omega)).trans ((fill_cons (vs := by8 me) rfl rfl (by rw [by8_length, hme]) (by rw [by8_length]; omega)).trans ((fill_cons (vs := [.int .i64 (reps : Int)]) rfl rfl rfl (by simp; omega)).trans rfl)), ?_, ?_, ?_, ?_⟩
  · simpa using l3
  · rw [List.getElem?_toArray, laid_out (by simp; omega) (.inl (by omega)), laid_out (by rw [by8_length]; omega) (.inl (by omega))]
    exact laid_in (L := Z) (off := 0) (j := 0) (by simp; omega) (by simp)
  · intro j v hj
    have hj' := (List.getElem?_eq_some_iff.1 hj).1
    rw [by8_length] at hj'
    rw [List.getElem?_toArray, laid_out (by simp; omega) (.inl (by omega)), laid_in (by rw [by8_length]; omega) (by rw [by8_length]; exact hj')]
    exact hj
  · rw [List.getElem?_toArray]
    exact laid_in (off := 23) (j := 0) (by simp; omega) (by simp)

/-- The record's cells. -/
structure RecCells (r : Rec) (C : Array Value) : Prop where
  size : C.size = 120
  key : ∀ (j : Nat) (v : Value), (by8 r.key)[j]? = some v → C[j]? = some v
  kind : C[20]? = some (.int .u32 r.kind)
  id : C[21]? = some (.int .u32 r.id)
  value : C[22]? = some (.slice r.va r.value.length r.vc)
  seq : C[23]? = some (.int .u32 r.seq)
  sig : ∀ (j : Nat) (v : Value), (by8 r.sig)[j]? = some v → C[56 + j]? = some v
  one : True

theorem build76 (w : World) (r : Rec) (hr : RecFit r) : ∃ C, (Instr.build 76 #[(0, .agg (by8 r.key).toArray), (1, .int .u32 r.kind), (2, .int .u32 r.id), (3, .slice r.va r.value.length r.vc), (4, .int .u32 r.seq), (6, .agg (by8 r.sig).toArray)]).run Yba.prog w = .ok (.agg C) w ∧ RecCells r C := by
  have hk := hr.key
  have hs := hr.sig
  refine run_build w 76 _ 120 _ #[(0, 20), (20, 1), (21, 1), (22, 1), (23, 1), (24, 32), (56, 64)] (by kernel_rfl) Yba.underlying76 (by kernel_rfl) _ (fun Z hZ => ?_)
  obtain ⟨L1, e1⟩ : ∃ L, L = laid Z 0 (by8 r.key) := ⟨_, rfl⟩
  obtain ⟨L2, e2⟩ : ∃ L, L = laid L1 20 [.int .u32 r.kind] := ⟨_, rfl⟩
  obtain ⟨L3, e3⟩ : ∃ L, L = laid L2 21 [.int .u32 r.id] := ⟨_, rfl⟩
  obtain ⟨L4, e4⟩ : ∃ L, L = laid L3 22 [.slice r.va r.value.length r.vc] := ⟨_, rfl⟩
  obtain ⟨L5, e5⟩ : ∃ L, L = laid L4 23 [.int .u32 r.seq] := ⟨_, rfl⟩
  obtain ⟨L6, e6⟩ : ∃ L, L = laid L5 56 (by8 r.sig) := ⟨_, rfl⟩
  have l1 : L1.length = 120 := by rw [e1, laid_length (by rw [by8_length]; omega), hZ]
  have l2 : L2.length = 120 := by rw [e2, laid_length (by simp; omega), l1]
  have l3 : L3.length = 120 := by rw [e3, laid_length (by simp; omega), l2]
  have l4 : L4.length = 120 := by rw [e4, laid_length (by simp; omega), l3]
  have l5 : L5.length = 120 := by rw [e5, laid_length (by simp; omega), l4]
  have l6 : L6.length = 120 := by rw [e6, laid_length (by rw [by8_length]; omega), l5]
  have o6 : ∀ j, j < 56 → L6[j]? = L5[j]? := fun j hj => by rw [e6, laid_out (by rw [by8_length]; omega) (.inl hj)]
  have o5 : ∀ j, j < 23 → L5[j]? = L4[j]? := fun j hj => by rw [e5, laid_out (by simp; omega) (.inl hj)]
  have o4 : ∀ j, j < 22 → L4[j]? = L3[j]? := fun j hj => by rw [e4, laid_out (by simp; omega) (.inl hj)]
  have o3 : ∀ j, j < 21 → L3[j]? = L2[j]? := fun j hj => by rw [e3, laid_out (by simp; omega) (.inl hj)]
  have o2 : ∀ j, j < 20 → L2[j]? = L1[j]? := fun j hj => by rw [e2, laid_out (by simp; omega) (.inl hj)]
  refine ⟨L6.toArray, ?_, by simpa using l6, ?_, ?_, ?_, ?_, ?_, ?_, trivial⟩
  · rw [e6, e5, e4, e3, e2, e1] at *
    exact (fill_cons (vs := by8 r.key) rfl rfl (by rw [by8_length, hk]) (by rw [by8_length]; omega)).trans ((fill_cons (vs := [.int .u32 r.kind]) rfl rfl rfl (by simp; omega)).trans ((fill_cons (vs := [.int .u32 r.id]) rfl rfl rfl (by simp; omega)).trans ((fill_cons (vs := [.slice r.va r.value.length r.vc]) rfl rfl rfl (by simp; omega)).trans ((fill_cons (vs := [.int .u32 r.seq]) rfl rfl rfl (by simp; omega)).trans ((fill_cons (vs := by8 r.sig) rfl rfl (by rw [by8_length, hs]) (by rw [by8_length]; omega)).trans rfl)))))
  · intro j v hj
    have hj' := (List.getElem?_eq_some_iff.1 hj).1
    rw [by8_length] at hj'
    rw [List.getElem?_toArray, o6 j (by omega), o5 j (by omega), o4 j (by omega), o3 j (by omega), o2 j (by omega), e1]
    have := laid_in (L := Z) (off := 0) (vs := by8 r.key) (by rw [by8_length]; omega) (j := j) (by rw [by8_length]; exact hj')
    rw [Nat.zero_add] at this
    rw [this]; exact hj
  · rw [List.getElem?_toArray, o6 20 (by omega), o5 20 (by omega), o4 20 (by omega), o3 20 (by omega), e2]
    exact laid_in (off := 20) (j := 0) (by simp; omega) (by simp)
  · rw [List.getElem?_toArray, o6 21 (by omega), o5 21 (by omega), o4 21 (by omega), e3]
    exact laid_in (off := 21) (j := 0) (by simp; omega) (by simp)
  · rw [List.getElem?_toArray, o6 22 (by omega), o5 22 (by omega), e4]
    exact laid_in (off := 22) (j := 0) (by simp; omega) (by simp)
  · rw [List.getElem?_toArray, o6 23 (by omega), e5]
    exact laid_in (off := 23) (j := 0) (by simp; omega) (by simp)
  · intro j v hj
    have hj' := (List.getElem?_eq_some_iff.1 hj).1
    rw [by8_length] at hj'
    rw [List.getElem?_toArray, e6, laid_in (by rw [by8_length]; omega) (by rw [by8_length]; exact hj')]
    exact hj

theorem build82 (w : World) (C : Array Value) (hC : C.size = 120) : ∃ D, (Instr.build 82 #[(1, .agg C)]).run Yba.prog w = .ok (.agg D) w ∧ D.size = 157 ∧ ∀ j, j < 120 → D[2 + j]? = C[j]? := by
  refine run_build w 82 _ 157 _ #[(0, 2), (2, 120), (122, 32), (154, 1), (155, 1), (156, 1)] (by kernel_rfl) Yba.underlying82 (by kernel_rfl) _ (fun Z hZ => ?_)
  have hl : C.toList.length = 120 := by simpa using hC
  refine ⟨_, (fill_cons (vs := C.toList) rfl (by simp [Value.cells]) (by rw [hl]) (by omega)).trans rfl, ?_, ?_⟩
  · have := laid_length (L := Z) (off := 2) (vs := C.toList) (by omega)
    simpa [hZ] using this
  · intro j hj
    rw [List.getElem?_toArray, laid_in (by omega) (by omega)]
    simp
end Go.Proofs.Ybulkeero
