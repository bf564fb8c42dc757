/- Rows.LawS6553CWholeSaid, proved. -/
import Derived.Test.YbulkeeroRows
import Derived.Test.YbulkeeroCOpen
import Derived.HandedShaped
import Derived.ChangeOld
namespace Go.Proofs.Ybulkeero
open Go.ChangeShapes Go.WideShapes Go.ChangeAt Go.RowKit
set_option linter.unusedVariables false

theorem Yba.ownC : ownKnob Yba.prog.godebug = Option.none := by kernel_rfl
theorem Yba.laidOutC : laidOutB Yba.prog = true := by kernel_rfl

set_option maxHeartbeats 2000000 in
set_option maxRecDepth 100000 in
theorem lawCLifted (os : Os) (started : os.Started) (H : Type) (enc : TypeId × Value → H) :
    ReturnsInHanded {} Yba.checked os 5 .any (Rows.lawS6553CWholeSpec.pre6 enc Yba.prog Yba.f5 Rows.lawS6553CWholeRow.domain false) (Rows.lawS6553CWholeSpec.post enc Yba.prog Yba.f5 false true false false) := by
  refine returnsInHanded_of_change_shaped (C := Yba.checked) Yba.ownC started (by kernel_rfl) Yba.func5
    (ChangeSpec.witness6 (enc := enc) (C := Yba.checked) false ⟨#[], #[.int .u8 0, .slice Option.none 0 0], []⟩ 8 (by kernel_rfl) (by kernel_rfl) (by kernel_rfl) (by kernel_rfl)) ?_
  intro W base args ds gs before hval0 hW hcnd hsz0 _ _
  have hsz : (DataW.weightsEach Yba.prog (Yba.f5.params.toList ++ Rows.lawS6553CWholeSpec.plain.varTypes Yba.prog) (ds ++ gs)).all (· ≤ reachBytes) = true := hsz0
  have hval : ∀ (j : Nat) t v, Yba.f5.params[j]? = some t → args[j]? = some v → Value.okWide Yba.prog W .any base t v := hval0
  have hW' := hW
  obtain ⟨p, q, hA0, hV, rfl, hfz, hnd⟩ := hW
  have hA : DataW.TrodAll enc Yba.prog W 0 (fun _ => true) true Yba.f5.params.toList args.toList ds p := hA0
  rw [Yba.params5] at hA hval hsz
  obtain ⟨v0, vs0, d0, ds0, p0, q0, hargs, rfl, rfl, h0, r0⟩ := trodAll_cons hA
  obtain ⟨v1, vs1, d1, ds1, p1, q1, rfl, rfl, rfl, h1, r1⟩ := trodAll_cons r0
  obtain ⟨rfl, rfl, rfl⟩ := trodAll_nil r1
  obtain rfl : args = #[v0, v1] := by cases args; simp_all
  obtain ⟨rfl, rfl⟩ := trodVars_none hV
  have g0 := h0
  have lt0 : ∀ x ∈ p0, x.block < W.heap.size := by obtain ⟨m, hm⟩ := g0; exact DataW.trod_lt m _ _ _ hm
  have g1 := h1
  have lt1 : ∀ x ∈ p1, x.block < W.heap.size := by obtain ⟨m, hm⟩ := g1; exact DataW.trod_lt m _ _ _ hm
  obtain ⟨width, rfl, rfl, rfl, wf0⟩ := open_int Yba.underlying5 (hval 0 5 v0 rfl rfl) h0
  obtain ⟨sa, sn, sc, rfl⟩ := okWide_slice Yba.underlying121 (hval 1 121 v1 rfl rfl)
  obtain ⟨ss, rfl, A⟩ := open_steps h1 (fun n hn => by
    have := List.all_eq_true.1 hsz n (DataW.weights_mem_each (j := 1) (t := 121) (d := d1) rfl rfl n hn)
    simpa using this)
  clear hA0 hval0
  refine (lawC_any W width sa sc ss (bounds_u8 wf0).1 A).mono fun e W' ⟨he, bel⟩ => ?_
  subst he
  exact ⟨_, rfl, _, _, _, [], _, [], hW', trodAll_mk1 (shut_bool Yba.underlying4 _), (trodAll_cons_mk (Below.trod Yba.laidOutC (by kernel_rfl) (of_decide_eq_true (by kernel_rfl)) g0 bel lt0) (trodAll_cons_mk (Below.trod Yba.laidOutC (by kernel_rfl) (of_decide_eq_true (by kernel_rfl)) g1 bel lt1) trodAll_mk0)), rfl, bel.frame _, fun h => by cases h⟩

theorem lawCOver : Rows.lawS6553CWholeRow.holds Yba.pinned (OpenSpec.ofChange Rows.lawS6553CWholeSpec) :=
  OpenClaim.holds_of_wide 5 Yba.f5 rfl rfl rfl rfl rfl rfl rfl ⟨rfl, rfl, rfl, rfl, rfl⟩ rfl rfl rfl rfl rfl (by kernel_rfl) Yba.func5 (by kernel_rfl)
    (of_decide_eq_true (by kernel_rfl)) (by unfold Func.isWrapper; first | (rw [if_pos (by decide +kernel)]; kernel_rfl) | (rw [if_neg (by decide +kernel)]; exact ⟨rfl, rfl⟩))
    (fun os started H enc _ => lawCLifted os started H enc)

theorem lawS6553CWholeProved : Rows.LawS6553CWholeSaid := lawCOver
end Go.Proofs.Ybulkeero
