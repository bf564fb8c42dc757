/- A region that draws its order: what yields its value in every world that meets S is taken first; S is shown anew behind every operation but those that wait for all that is taken. -/
import Derived.Test.YbulkeeroLater
namespace Go.Proofs.Ybulkeero
open Go.RowKit Go.Joins

section
variable {P : Program} {ops : Array Oper} {Q : Exit → Act → World → Prop} {md : Region.Mode} {S : World → Prop} {E : Nat → Bool}

/-- Whatever order is picked from here on; S holds behind every operation but those that E names. -/
def wpAnyE (P : Program) (md : Region.Mode) (ops : Array Oper) (Q : Exit → Act → World → Prop) (S : World → Prop) (E : Nat → Bool) : Nat → Array Bool → Act → World → Prop
  | 0, listed, a, w => Region.ready md ops listed = [] ∧ Q .normal a w
  | fuel + 1, listed, a, w =>
    (Region.ready md ops listed = [] → Q .normal a w) ∧
    ∀ i ∈ Region.ready md ops listed, wpOp P ops Q i (fun a' w' => (E i = false → S w') ∧ wpAnyE P md ops Q S E fuel (listed.setIfInBounds i true) a' w') a w

theorem wpAny_of_E : ∀ (fuel : Nat) (listed : Array Bool) (a : Act) (w : World), wpAnyE P md ops Q S E fuel listed a w → wpAny P md ops Q fuel listed a w
  | 0, _, _, _, h => h
  | fuel + 1, _, _, _, h => ⟨h.1, fun i hi => wpOp_mono (fun a' w' h' => wpAny_of_E fuel _ a' w' h'.2) (h.2 i hi)⟩

theorem wpAnyE_first {i : Nat} {oi : Oper} {v : Value} (hi : ops[i]? = some oi) (hsel : ∀ (j : Nat) (o : Oper) cs b, ops[j]? = some o → o.op ≠ .select cs b)
    (hQ : ∀ c a w, Q (.panic c) (a.put oi.dst v) w → Q (.panic c) a w) (hE : ∀ j oj, ops[j]? = some oj → E j = true → ∃ e ∈ oj.after, Region.binds md e = true ∧ e.on = i) :
    ∀ (fuel : Nat) (listed : Array Bool) (a : Act) (w : World),
      (∀ j oj, ops[j]? = some oj → j ≠ i → listed.getD j true = false → (∀ e ∈ oj.after, Region.binds md e = true → e.on ≠ i) → oi.apart ops oj = true) →
      i ∈ Region.ready md ops listed → YieldsIf P ops S oi v a → S w →
      wpAnyE P md ops Q S E fuel (listed.setIfInBounds i true) (a.put oi.dst v) w → wpAnyE P md ops Q S E (fuel + 1) listed a w := by
  intro fuel
  induction fuel with
  | zero =>
    intro listed a w _ hr hy hS H
    refine ⟨fun h => (by rw [h] at hr; cases hr), fun j hj => ?_⟩
    by_cases hji : j = i
    · subst hji; exact hy.wpOp hi hS ⟨fun _ => hS, H⟩
    · have := ready_mono hj hji
      rw [H.1] at this
      cases this
  | succ fuel ih =>
    intro listed a w hfree hr hy hS H
    refine ⟨fun h => (by rw [h] at hr; cases hr), fun j hj => ?_⟩
    by_cases hji : j = i
    · subst hji; exact hy.wpOp hi hS ⟨fun _ => hS, H⟩
    · have h1 := H.2 j (ready_mono hj hji)
      obtain ⟨hjun, oj, hoj, hall⟩ := mem_ready.1 hj
      have hnot : ∀ e ∈ oj.after, Region.binds md e = true → e.on ≠ i := fun e he hb heq => by
        have h1 := hall e he hb
        have h0 := (mem_ready.1 hr).1
        rw [heq] at h1
        rcases Nat.lt_or_ge i listed.size with h' | h'
        · simp [h'] at h0 h1; rw [h0] at h1; cases h1
        · simp [Array.getElem?_eq_none h'] at h1
      have hEj : E j = false := by
        cases hh : E j with
        | false => rfl
        | true =>
          obtain ⟨e, he, hb, ho⟩ := hE j oj hoj hh
          exact absurd ho (hnot e he hb)
      have h2 := wpOp_putIf hoj (hfree j oj hoj hji hjun hnot) (fun cs b => hsel i oi cs b hi) (fun cs b => hsel j oj cs b hoj) hQ hy h1
      have hfree' : ∀ k ok, ops[k]? = some ok → k ≠ i → (listed.setIfInBounds j true).getD k true = false →
          (∀ e ∈ ok.after, Region.binds md e = true → e.on ≠ i) → oi.apart ops ok = true := fun k ok hk hki hun hno => by
        refine hfree k ok hk hki ?_ hno
        by_cases hjk : j = k
        · subst hjk; exact hjun
        · rw [getD_set_ne true hjk] at hun; exact hun
      refine wpOp_mono (fun a' w' h3 => ⟨h3.2.1, ih (listed.setIfInBounds j true) a' w' hfree' (ready_mono hr (Ne.symm hji)) h3.1 (h3.2.1 hEj) ?_⟩) h2
      rw [Array.setIfInBounds_comm _ _ hji]
      exact h3.2.2

/-- Those that E names wait for operation i. -/
def waitsAll (md : Region.Mode) (ops : Array Oper) (es : List Nat) (i : Nat) : Bool := es.all fun j => match ops[j]? with | some o => o.after.any fun e => Region.binds md e && e.on == i | none => true

theorem waitsAll_spec {es : List Nat} {i : Nat} (h : waitsAll md ops es i = true) : ∀ j oj, ops[j]? = some oj → es.contains j = true → ∃ e ∈ oj.after, Region.binds md e = true ∧ e.on = i := by
  intro j oj hj hc
  have := List.all_eq_true.1 h j (by simpa using hc)
  simp only [hj, Array.any_eq_true'] at this
  obtain ⟨e, he, hh⟩ := this
  simp only [Bool.and_eq_true, beq_iff_eq] at hh
  exact ⟨e, he, hh.1, hh.2⟩

theorem takeE {es : List Nat} (i : Nat) (oi : Oper) (v : Value) {fuel : Nat} {listed : Array Bool} {a : Act} {w : World} (hi : ops[i]? = some oi)
    (hs : Region.noSelect ops = true) (hf : Region.free md ops listed i = true) (hr : (Region.ready md ops listed).contains i = true) (hE : waitsAll md ops es i = true)
    (hQ : ∀ c a w, Q (.panic c) (a.put oi.dst v) w → Q (.panic c) a w) (hy : YieldsIf P ops S oi v a) (hS : S w)
    (h : wpAnyE P md ops Q S es.contains fuel (listed.setIfInBounds i true) (a.put oi.dst v) w) : wpAnyE P md ops Q S es.contains (fuel + 1) listed a w :=
  wpAnyE_first hi (Region.noSelect_spec hs) hQ (waitsAll_spec hE) fuel listed a w (Region.free_spec hi hf) (by simpa using hr) hy hS h

/-- One alone may come up; behind it S is shown anew. -/
theorem stepE {es : List Nat} (i : Nat) (o : Oper) {fuel : Nat} {listed : Array Bool} {a : Act} {w : World} (ho : ops[i]? = some o) (hr : Region.ready md ops listed = [i])
    (h : ∀ K' : Act → World → Prop, (∀ a w, (es.contains i = false → S w) → wpAnyE P md ops Q S es.contains fuel (listed.setIfInBounds i true) a w → K' a w) → if Region.wanted o (yielded ops a.tmps) = true then Oper.wp P o a w K' Q else K' (a.put o.dst undef) w) :
    wpAnyE P md ops Q S es.contains (fuel + 1) listed a w := by
  refine ⟨fun h0 => (by rw [hr] at h0; cases h0), fun j hj => ?_⟩
  rw [hr] at hj
  obtain rfl := List.mem_singleton.1 hj
  exact wpOp_step ho (fun K' hK => h K' (fun a w hS hW => hK a w ⟨hS, hW⟩))

theorem doneE {listed : Array Bool} {a : Act} {w : World} (hr : Region.ready md ops listed = []) (h : Q .normal a w) : ∀ fuel, wpAnyE P md ops Q S E fuel listed a w
  | 0 => ⟨hr, h⟩
  | _ + 1 => ⟨fun _ => h, by rw [hr]; simp⟩

theorem beginE (es : List Nat) (S : World → Prop) {id : Nat} {a : Act} {w : World} (hm : P.follows .mixedOrders = true) (hS : S w.drew)
    (h : S w.drew → wpAnyE P .any ops Q S es.contains ops.size (Array.replicate ops.size false) a w.drew) : (Code.region id ops true).wp P Q a w :=
  wp_region_any hm (wpAny_of_E _ _ _ _ (h hS))
end
end Go.Proofs.Ybulkeero
