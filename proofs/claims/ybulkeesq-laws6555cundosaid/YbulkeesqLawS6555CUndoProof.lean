/- Rows.LawS6555CUndoSaid, proved. -/
import Derived.Test.YbulkeesqRows
import Derived.Test.YbulkeesqUndoOpen
import Derived.HandedShaped
import Derived.ChangeOld
namespace Go.Proofs.Ybulkeesq
open Go.ChangeShapes Go.WideShapes Go.ChangeAt Go.RowKit
set_option linter.unusedVariables false

theorem Yba.own : ownKnob Yba.prog.godebug = none := by kernel_rfl
theorem Yba.laidOut : laidOutB Yba.prog = true := by kernel_rfl

set_option maxRecDepth 100000 in
theorem undoLifted (os : Os) (started : os.Started) (H : Type) (enc : TypeId × Value → H) :
    ReturnsInHanded {} Yba.checked os 4 .any (Rows.lawS6555CUndoSpec.pre6 enc Yba.prog Yba.f4 Rows.lawS6555CUndoRow.domain false) (Rows.lawS6555CUndoSpec.post enc Yba.prog Yba.f4 false true false false) := by
  refine returnsInHanded_of_change_shaped (C := Yba.checked) Yba.own started (by kernel_rfl) Yba.func4
    (ChangeSpec.witness6 (enc := enc) (C := Yba.checked) false ⟨#[], #[.int .u8 0, .slice none 0 0, .slice none 0 0], []⟩ 8 (by kernel_rfl) (by kernel_rfl) (by kernel_rfl) (by kernel_rfl)) ?_
  intro W base args ds gs before hval0 hW hcnd hsz _ _
  have hval : ∀ (j : Nat) t v, Yba.f4.params[j]? = some t → args[j]? = some v → Value.okWide Yba.prog W .any base t v := hval0
  have hW' := hW
  obtain ⟨p, q, hA0, hV, rfl, hfz, hnd⟩ := hW
  have hA : DataW.TrodAll enc Yba.prog W 0 (fun _ => true) true Yba.f4.params.toList args.toList ds p := hA0
  have hsz2 : (DataW.weightsEach Yba.prog (Yba.f4.params.toList ++ []) (ds ++ gs)).all (· ≤ reachBytes) = true := hsz
  rw [Yba.params4] at hA hval hsz2
  obtain ⟨v0, vs0, d0, ds0, p0, q0, hargs, rfl, rfl, h0, r0⟩ := trodAll_cons hA
  obtain ⟨v1, vs1, d1, ds1, p1, q1, rfl, rfl, rfl, h1, r1⟩ := trodAll_cons r0
  obtain ⟨v2, vs2, d2, ds2, p2, q2, rfl, rfl, rfl, h2, r2⟩ := trodAll_cons r1
  obtain ⟨rfl, rfl, rfl⟩ := trodAll_nil r2
  obtain rfl : args = #[v0, v1, v2] := by cases args; simp_all
  obtain ⟨rfl, rfl⟩ := trodVars_none hV
  have k0 := h0
  have k1 := h1
  have k2 := h2
  have lt0 : ∀ x ∈ p0, x.block < W.heap.size := by obtain ⟨m, hm⟩ := k0; exact DataW.trod_lt m _ _ _ hm
  have lt1 : ∀ x ∈ p1, x.block < W.heap.size := by obtain ⟨m, hm⟩ := k1; exact DataW.trod_lt m _ _ _ hm
  have lt2 : ∀ x ∈ p2, x.block < W.heap.size := by obtain ⟨m, hm⟩ := k2; exact DataW.trod_lt m _ _ _ hm
  have hall : ∀ n ∈ DataW.weightsEach Yba.prog [5, 55, 55] [d0, d1, d2], n ≤ reachBytes := fun n hn => by
    have := List.all_eq_true.1 hsz2 n (by simpa using hn)
    simpa using this
  have w1 : ∀ n ∈ d1.weights Yba.prog 55, n ≤ reachBytes := fun n hn => hall n (DataW.weights_mem_each (j := 1) (t := 55) rfl rfl n hn)
  have w2 : ∀ n ∈ d2.weights Yba.prog 55, n ≤ reachBytes := fun n hn => hall n (DataW.weights_mem_each (j := 2) (t := 55) rfl rfl n hn)
  obtain ⟨mx, rfl, rfl, rfl, wf⟩ := open_int Yba.underlying5 (hval 0 5 v0 rfl rfl) h0
  obtain ⟨a1, l1, c1, rfl⟩ := okWide_slice Yba.underlying55 (hval 1 55 v1 rfl rfl)
  obtain ⟨a2, l2, c2, rfl⟩ := okWide_slice Yba.underlying55 (hval 2 55 v2 rfl rfl)
  obtain ⟨x1, y1, t1, s1, z1, b1⟩ := open_ops h1 (fun _ => rfl) w1
  obtain ⟨x2, y2, t2, s2, z2, b2⟩ := open_ops h2 (fun _ => rfl) w2
  clear hA0 hval0
  refine (undo_walk W mx (bounds_u8 wf).1 (bounds_u8 wf).2 a1 a2 l1 l2 c1 c2 x1 y1 x2 y2 t1 t2 s1 s2 z1 z2 b1 b2).mono fun e W' ⟨he, bel⟩ => ?_
  subst he
  exact ⟨_, rfl, _, _, _, [], _, [], hW', trodAll_mk1 (shut_bool Yba.underlying4 _), (trodAll_cons_mk (Below.trod Yba.laidOut (by kernel_rfl) (of_decide_eq_true (by kernel_rfl)) k0 bel lt0) (trodAll_cons_mk (Below.trod Yba.laidOut (by kernel_rfl) (of_decide_eq_true (by kernel_rfl)) k1 bel lt1) (trodAll_cons_mk (Below.trod Yba.laidOut (by kernel_rfl) (of_decide_eq_true (by kernel_rfl)) k2 bel lt2) trodAll_mk0))), rfl, bel.frame _, fun h => by cases h⟩

theorem undoOver : Rows.lawS6555CUndoRow.holds Yba.pinned (OpenSpec.ofChange Rows.lawS6555CUndoSpec) :=
  OpenClaim.holds_of_wide 4 Yba.f4 rfl rfl rfl rfl rfl rfl rfl ⟨rfl, rfl, rfl, rfl, rfl⟩ rfl rfl rfl rfl rfl (by kernel_rfl) Yba.func4 (by kernel_rfl)
    (of_decide_eq_true (by kernel_rfl)) (by unfold Func.isWrapper; first | (rw [if_pos (by decide +kernel)]; kernel_rfl) | (rw [if_neg (by decide +kernel)]; exact ⟨rfl, rfl⟩))
    (fun os started H enc _ => undoLifted os started H enc)

theorem lawS6555CUndoProved : Rows.LawS6555CUndoSaid := undoOver
end Go.Proofs.Ybulkeesq
