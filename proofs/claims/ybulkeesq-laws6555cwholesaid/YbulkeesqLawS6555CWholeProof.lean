/- Rows.LawS6555CWholeSaid, proved. -/
import Derived.Test.YbulkeesqRows
import Derived.Test.YbulkeesqMark
import Derived.ProofKit
import Derived.OpenShut
import Derived.ChangeOld
namespace Go.Proofs.Ybulkeesq
open Go.ChangeShapes Go.WideShapes Go.ChangeAt Go.RowKit
set_option linter.unusedVariables false

theorem Yba.own : ownKnob Yba.prog.godebug = none := by kernel_rfl
theorem Yba.laidOut : laidOutB Yba.prog = true := by kernel_rfl
theorem Yba.cells25 : Yba.prog.cellsOf 25 = 19 := by kernel_rfl
theorem Yba.cells3 : Yba.prog.cellsOf 3 = 1 := by kernel_rfl
theorem Yba.cells22 : Yba.prog.cellsOf 22 = 1 := by kernel_rfl
theorem Yba.cells4 : Yba.prog.cellsOf 4 = 1 := by kernel_rfl
theorem Yba.cells23 : Yba.prog.cellsOf 23 = 8 := by kernel_rfl

theorem list19 {α : Type} {l : List α} (h : l.length = 19) : ∃ c0 c1 c2 c3 c4 c5 c6 c7 c8 c9 c10 c11 c12 c13 c14 c15 c16 c17 c18, l = [c0, c1, c2, c3, c4, c5, c6, c7, c8, c9, c10, c11, c12, c13, c14, c15, c16, c17, c18] := by
  match l, h with
  | [c0, c1, c2, c3, c4, c5, c6, c7, c8, c9, c10, c11, c12, c13, c14, c15, c16, c17, c18], _ => exact ⟨c0, c1, c2, c3, c4, c5, c6, c7, c8, c9, c10, c11, c12, c13, c14, c15, c16, c17, c18, rfl⟩

section
variable {H : Type} {enc : TypeId × Value → H} {W : World} {base : Nat} {spare : Nat → Bool} {held : Bool}

theorem int_at {fuel : Nat} {k : IntKind} {t : TypeId} {c : Value} {y : Option (DataW H × List MemPlace)} (ht : Yba.prog.underlying t = some (.int k)) (hy : y.isSome = true)
    (h : DataW.trod enc Yba.prog W base spare held fuel t [c] = y) : ∃ n, c = .int k n ∧ (Lit.int k n).wf = true := by
  obtain ⟨x, rfl⟩ := Option.isSome_iff_exists.1 hy
  obtain ⟨n, e, _, wf⟩ := DataW.trod_int ht h
  simp at e
  exact ⟨n, e, wf⟩
theorem bool_at {fuel : Nat} {t : TypeId} {c : Value} {y : Option (DataW H × List MemPlace)} (ht : Yba.prog.underlying t = some .bool) (hy : y.isSome = true)
    (h : DataW.trod enc Yba.prog W base spare held fuel t [c] = y) : ∃ b, c = .bool b := by
  obtain ⟨x, rfl⟩ := Option.isSome_iff_exists.1 hy
  obtain ⟨n, e, _⟩ := DataW.trod_bool ht h
  simp at e
  exact ⟨n, e⟩

theorem open_in {r : Reach} {b0 : Nat} {v : Value} {d : DataW H} {p : List MemPlace} (hv : Value.okWide Yba.prog W r b0 25 v) (h : DataW.Trod enc Yba.prog W base spare held 25 v d p) :
    ∃ (mv v1 v2 v3 v4 v5 v6 v7 tk : Int) (tr : Bool) (o0 o1 o2 o3 o4 o5 o6 o7 : Int) (ot : Bool), v = .agg (inCells mv v1 v2 v3 v4 v5 v6 v7 tk tr o0 o1 o2 o3 o4 o5 o6 o7 ot) ∧
      (0 ≤ v1 ∧ v1 ≤ 65535) ∧ (0 ≤ v2 ∧ v2 ≤ 65535) ∧ (0 ≤ v3 ∧ v3 ≤ 65535) ∧ (0 ≤ v4 ∧ v4 ≤ 65535) ∧ (0 ≤ v5 ∧ v5 ≤ 65535) ∧ (0 ≤ v6 ∧ v6 ≤ 65535) ∧ (0 ≤ v7 ∧ v7 ≤ 65535) := by
  obtain ⟨⟨l⟩, rfl, hsz⟩ := okWide_struct Yba.underlying25 hv
  rw [Yba.cells25] at hsz
  obtain ⟨c0, c1, c2, c3, c4, c5, c6, c7, c8, c9, c10, c11, c12, c13, c14, c15, c16, c17, c18, rfl⟩ := list19 (l := l) hsz
  obtain ⟨fuel, hf⟩ := h
  obtain ⟨xs, n, _, _, _, hlen, hx⟩ := DataW.trod_struct Yba.underlying25 hf
  have hs : ∀ i, i < 12 → (xs[i]?).isSome = true := fun i hi => by
    have : xs.length = 12 := hlen
    simp [this, hi]
  obtain ⟨x0, e0, wf0⟩ := int_at Yba.underlying3 (hs 0 (by omega)) (by simpa [Value.cells, Yba.cells3] using hx 0 _ rfl)
  obtain ⟨x1, e1, wf1⟩ := int_at Yba.underlying22 (hs 1 (by omega)) (by simpa [Value.cells, Yba.cells22] using hx 1 _ rfl)
  obtain ⟨x2, e2, wf2⟩ := int_at Yba.underlying22 (hs 2 (by omega)) (by simpa [Value.cells, Yba.cells22] using hx 2 _ rfl)
  obtain ⟨x3, e3, wf3⟩ := int_at Yba.underlying22 (hs 3 (by omega)) (by simpa [Value.cells, Yba.cells22] using hx 3 _ rfl)
  obtain ⟨x4, e4, wf4⟩ := int_at Yba.underlying22 (hs 4 (by omega)) (by simpa [Value.cells, Yba.cells22] using hx 4 _ rfl)
  obtain ⟨x5, e5, wf5⟩ := int_at Yba.underlying22 (hs 5 (by omega)) (by simpa [Value.cells, Yba.cells22] using hx 5 _ rfl)
  obtain ⟨x6, e6, wf6⟩ := int_at Yba.underlying22 (hs 6 (by omega)) (by simpa [Value.cells, Yba.cells22] using hx 6 _ rfl)
  obtain ⟨x7, e7, wf7⟩ := int_at Yba.underlying22 (hs 7 (by omega)) (by simpa [Value.cells, Yba.cells22] using hx 7 _ rfl)
  obtain ⟨x8, e8, wf8⟩ := int_at Yba.underlying3 (hs 8 (by omega)) (by simpa [Value.cells, Yba.cells3] using hx 8 _ rfl)
  obtain ⟨x9, e9⟩ := bool_at Yba.underlying4 (hs 9 (by omega)) (by simpa [Value.cells, Yba.cells4] using hx 9 _ rfl)
  obtain ⟨y, hy⟩ := Option.isSome_iff_exists.1 (hs 10 (by omega))
  have ha : DataW.trod enc Yba.prog W base spare held n 23 [c10, c11, c12, c13, c14, c15, c16, c17] = some y := by
    rw [← hy]; simpa [Value.cells, Yba.cells23] using hx 10 _ rfl
  obtain ⟨ys, m, _, _, _, hlen2, hx2⟩ := DataW.trod_array Yba.underlying23 ha
  have hs2 : ∀ i, i < 8 → (ys[i]?).isSome = true := fun i hi => by simp [hlen2, hi]
  obtain ⟨z0, g0, _⟩ := int_at Yba.underlying3 (hs2 0 (by omega)) (by simpa [Yba.cells3] using hx2 0 (by omega))
  obtain ⟨z1, g1, _⟩ := int_at Yba.underlying3 (hs2 1 (by omega)) (by simpa [Yba.cells3] using hx2 1 (by omega))
  obtain ⟨z2, g2, _⟩ := int_at Yba.underlying3 (hs2 2 (by omega)) (by simpa [Yba.cells3] using hx2 2 (by omega))
  obtain ⟨z3, g3, _⟩ := int_at Yba.underlying3 (hs2 3 (by omega)) (by simpa [Yba.cells3] using hx2 3 (by omega))
  obtain ⟨z4, g4, _⟩ := int_at Yba.underlying3 (hs2 4 (by omega)) (by simpa [Yba.cells3] using hx2 4 (by omega))
  obtain ⟨z5, g5, _⟩ := int_at Yba.underlying3 (hs2 5 (by omega)) (by simpa [Yba.cells3] using hx2 5 (by omega))
  obtain ⟨z6, g6, _⟩ := int_at Yba.underlying3 (hs2 6 (by omega)) (by simpa [Yba.cells3] using hx2 6 (by omega))
  obtain ⟨z7, g7, _⟩ := int_at Yba.underlying3 (hs2 7 (by omega)) (by simpa [Yba.cells3] using hx2 7 (by omega))
  obtain ⟨x11, e11⟩ := bool_at Yba.underlying4 (hs 11 (by omega)) (by simpa [Value.cells, Yba.cells4] using hx 11 _ rfl)
  subst e0 e1 e2 e3 e4 e5 e6 e7 e8 e9 e11 g0 g1 g2 g3 g4 g5 g6 g7
  exact ⟨x0, x1, x2, x3, x4, x5, x6, x7, x8, x9, z0, z1, z2, z3, z4, z5, z6, z7, x11, rfl, bounds_u16 wf1, bounds_u16 wf2, bounds_u16 wf3, bounds_u16 wf4, bounds_u16 wf5, bounds_u16 wf6, bounds_u16 wf7⟩
end

set_option maxRecDepth 100000 in
theorem wholeLifted (os : Os) (started : os.Started) (H : Type) (enc : TypeId × Value → H) :
    ReturnsInHanded {} Yba.checked os 3 .any (Rows.lawS6555CWholeSpec.pre6 enc Yba.prog Yba.f3 Rows.lawS6555CWholeRow.domain false) (Rows.lawS6555CWholeSpec.post enc Yba.prog Yba.f3 false true false false) := by
  refine returnsInHanded_of_change (C := Yba.checked) Yba.own started (by kernel_rfl) Yba.func3
    (ChangeSpec.witness6 (enc := enc) (C := Yba.checked) false ⟨#[], #[.agg (inCells 0 0 0 0 0 0 0 0 0 false 0 0 0 0 0 0 0 0 false)], []⟩ 8 (by kernel_rfl) (by kernel_rfl) (by kernel_rfl) (by kernel_rfl)) ?_
  intro W base args ds gs before hval0 hW hcnd _
  have hval : ∀ (j : Nat) t v, Yba.f3.params[j]? = some t → args[j]? = some v → Value.okWide Yba.prog W .any base t v := hval0
  have hW' := hW
  obtain ⟨p, q, hA0, hV, rfl, hfz, hnd⟩ := hW
  have hA : DataW.TrodAll enc Yba.prog W 0 (fun _ => true) true Yba.f3.params.toList args.toList ds p := hA0
  rw [Yba.params3] at hA hval
  obtain ⟨v0, vs0, d0, ds0, p0, q0, hargs, rfl, rfl, h0, r0⟩ := trodAll_cons hA
  obtain ⟨rfl, rfl, rfl⟩ := trodAll_nil r0
  obtain rfl : args = #[v0] := by cases args; simp_all
  obtain ⟨rfl, rfl⟩ := trodVars_none hV
  have k0 := h0
  have lt0 : ∀ x ∈ p0, x.block < W.heap.size := by obtain ⟨m, hm⟩ := k0; exact DataW.trod_lt m _ _ _ hm
  obtain ⟨mv, v1, v2, v3, v4, v5, v6, v7, tk, tr, o0, o1, o2, o3, o4, o5, o6, o7, ot, rfl, b1, b2, b3, b4, b5, b6, b7⟩ := open_in (hval 0 25 v0 rfl rfl) h0
  clear hA0 hval0
  refine (mark_walk mv v1 v2 v3 v4 v5 v6 v7 tk tr o0 o1 o2 o3 o4 o5 o6 o7 ot W b1 b2 b3 b4 b5 b6 b7).mono fun e W' ⟨he, bel⟩ => ?_
  subst he
  exact ⟨_, rfl, _, _, _, [], _, [], hW', trodAll_mk1 (shut_bool Yba.underlying4 _), (trodAll_cons_mk (Below.trod Yba.laidOut (by kernel_rfl) (of_decide_eq_true (by kernel_rfl)) k0 bel lt0) trodAll_mk0), rfl, bel.frame _, fun h => by cases h⟩

theorem wholeOver : Rows.lawS6555CWholeRow.holds Yba.pinned (OpenSpec.ofChange Rows.lawS6555CWholeSpec) :=
  OpenClaim.holds_of_wide 3 Yba.f3 rfl rfl rfl rfl rfl rfl rfl ⟨rfl, rfl, rfl, rfl, rfl⟩ rfl rfl rfl rfl rfl (by kernel_rfl) Yba.func3 (by kernel_rfl)
    (of_decide_eq_true (by kernel_rfl)) (by unfold Func.isWrapper; first | (rw [if_pos (by decide +kernel)]; kernel_rfl) | (rw [if_neg (by decide +kernel)]; exact ⟨rfl, rfl⟩))
    (fun os started H enc _ => wholeLifted os started H enc)

theorem lawS6555CWholeProved : Rows.LawS6555CWholeSaid := wholeOver
end Go.Proofs.Ybulkeesq
