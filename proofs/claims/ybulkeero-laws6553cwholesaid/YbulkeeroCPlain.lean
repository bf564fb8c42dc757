/- The law 6553C: the groups, by plain recursion. -/
import Derived.Test.YbulkeeroFile0
namespace Go.Proofs.Ybulkeero
open Go.RowKit Go.Joins

/-- A group as the law makes it: a reach, and who has it. -/
structure PG where
  d : Nat
  P : List Int
  ms : List Nat
def hitQ (d : Nat) (P : List Int) (q : PG) : Bool := decide (d = q.d ∧ P = q.P)
def msAt (qs : List PG) (k : Nat) : List Nat := ((qs[k]?).map PG.ms).getD []
def addPG (qs : List PG) (d : Nat) (P : List Int) (i : Nat) : List PG :=
  match qs.findIdx? (hitQ d P) with
  | some k => qs.set k ⟨d, P, msAt qs k ++ [i]⟩
  | none => qs ++ [⟨d, P, [i]⟩]
def pgs (D : Nat → Nat) (P : Nat → List Int) : Nat → List PG
  | 0 => []
  | i + 1 => addPG (pgs D P i) (D i) (P i) i
def cntD (D : Nat → Nat) (d : Nat) : Nat → Nat
  | 0 => 0
  | i + 1 => cntD D d i + if D i = d then 1 else 0
theorem cntD_le (D : Nat → Nat) (d : Nat) : ∀ i, cntD D d i ≤ i
  | 0 => Nat.le_refl _
  | i + 1 => by
    have := cntD_le D d i
    unfold cntD
    split <;> omega

theorem get_set' {α : Type} {l : List α} {k i : Nat} {x y : α} (h : (l.set k x)[i]? = some y) : (i = k ∧ y = x ∧ k < l.length) ∨ (i ≠ k ∧ l[i]? = some y) := by
  by_cases e : i = k
  · subst e
    have hl := (List.getElem?_eq_some_iff.1 h).1
    rw [List.length_set] at hl
    rw [List.getElem?_set_self hl] at h
    exact .inl ⟨rfl, (Option.some.inj h).symm, hl⟩
  · rw [List.getElem?_set_ne (Ne.symm e)] at h
    exact .inr ⟨e, h⟩
theorem get_push {α : Type} {l : List α} {i : Nat} {x y : α} (h : (l ++ [x])[i]? = some y) : (i < l.length ∧ l[i]? = some y) ∨ (i = l.length ∧ y = x) := by
  have hl := (List.getElem?_eq_some_iff.1 h).1
  simp at hl
  by_cases e : i < l.length
  · rw [List.getElem?_append_left e] at h
    exact .inl ⟨e, h⟩
  · obtain rfl : i = l.length := by omega
    simp at h
    exact .inr ⟨rfl, h.symm⟩

theorem findIdx_hit {qs : List PG} {d k : Nat} {P : List Int} (h : qs.findIdx? (hitQ d P) = some k) : ∃ q, qs[k]? = some q ∧ q.d = d ∧ q.P = P ∧ k < qs.length := by
  obtain ⟨hk, hp, _⟩ := List.findIdx?_eq_some_iff_getElem.1 h
  refine ⟨qs[k], List.getElem?_eq_getElem hk, ?_⟩
  have := of_decide_eq_true hp
  exact ⟨this.1.symm, this.2.symm, hk⟩

/-- The members came before. -/
theorem pgs_ms (D : Nat → Nat) (P : Nat → List Int) : ∀ (i k : Nat) (q : PG), (pgs D P i)[k]? = some q → q.ms.length ≤ i ∧ ∀ m ∈ q.ms, m < i
  | 0, k, q, h => by simp [pgs] at h
  | i + 1, k, q, h => by
    have ih := pgs_ms D P i
    unfold pgs addPG at h
    split at h
    · rename_i j hj
      rcases get_set' h with ⟨_, rfl, hl⟩ | ⟨_, h⟩
      · have e : (pgs D P i)[j]? = some (pgs D P i)[j] := List.getElem?_eq_getElem hl
        have := ih j _ e
        simp only [msAt, e, Option.map_some, Option.getD_some, List.length_append, List.length_singleton, List.mem_append, List.mem_singleton]
        refine ⟨by omega, fun m hm => ?_⟩
        rcases hm with hm | rfl
        · have := this.2 m hm; omega
        · omega
      · have := ih k q h
        exact ⟨by omega, fun m hm => by have := this.2 m hm; omega⟩
    · rcases get_push h with ⟨_, h⟩ | ⟨_, rfl⟩
      · have := ih k q h
        exact ⟨by omega, fun m hm => by have := this.2 m hm; omega⟩
      · exact ⟨by simp, fun m hm => by simp at hm; omega⟩
theorem pgs_length (D : Nat → Nat) (P : Nat → List Int) : ∀ i, (pgs D P i).length ≤ i
  | 0 => Nat.le_refl _
  | i + 1 => by
    have ih := pgs_length D P i
    unfold pgs addPG
    split
    · rw [List.length_set]; omega
    · simp; omega
/-- No two groups of one reach. -/
theorem pgs_once (D : Nat → Nat) (P : Nat → List Int) : ∀ (i k : Nat) (q : PG), (pgs D P i)[k]? = some q → (pgs D P i).findIdx? (hitQ q.d q.P) = some k
  | 0, k, q, h => by simp [pgs] at h
  | i + 1, k, q, h => by
    have ih := pgs_once D P i
    unfold pgs addPG at h ⊢
    split at h
    · rename_i j hj
      have key : ∀ (k' : Nat) (q' : PG), (((pgs D P i).set j ⟨D i, P i, msAt (pgs D P i) j ++ [i]⟩)[k']? = some q') → ∃ q0 : PG, (pgs D P i)[k']? = some q0 ∧ q0.d = q'.d ∧ q0.P = q'.P := by
        intro k' q' h'
        rcases get_set' h' with ⟨rfl, rfl, hl⟩ | ⟨_, h'⟩
        · obtain ⟨q0, h0, h1, h2, _⟩ := findIdx_hit hj
          exact ⟨q0, h0, h1, h2⟩
        · exact ⟨q', h', rfl, rfl⟩
      have hkl : k < (pgs D P i).length := by have := (List.getElem?_eq_some_iff.1 h).1; simpa using this
      obtain ⟨q0, h0, h1, h2⟩ := key k q h
      have h3 := ih k q0 h0
      rw [h1, h2] at h3
      obtain ⟨_, _, h5⟩ := List.findIdx?_eq_some_iff_getElem.1 h3
      rw [List.findIdx?_eq_some_iff_getElem]
      refine ⟨by simpa using hkl, ?_, fun j' hj' => ?_⟩
      · rw [(List.getElem?_eq_some_iff.1 h).2]; simp [hitQ]
      · have hjl : j' < ((pgs D P i).set j ⟨D i, P i, msAt (pgs D P i) j ++ [i]⟩).length := by rw [List.length_set]; omega
        obtain ⟨q2, e0, e1, e2⟩ := key j' _ (List.getElem?_eq_getElem hjl)
        have h6 := h5 j' hj'
        rw [(List.getElem?_eq_some_iff.1 e0).2] at h6
        simpa [hitQ, e1, e2] using h6
    · rename_i hno
      rcases get_push h with ⟨hk, h⟩ | ⟨rfl, rfl⟩
      · rw [List.findIdx?_append, ih k q h]; rfl
      · rw [List.findIdx?_append, hno]; simp [hitQ]

/-- A group in memory is one of the law's. -/
structure GIs (E V : Nat → List Value) (wid : Nat) (g : Grp) (q : PG) : Prop where
  d : g.d = q.d
  P : g.P = q.P
  en : g.ents.n = q.ms.length
  ex : g.ents.xs = q.ms.flatMap E
  rn : g.rooms.n = q.ms.length * wid
  rx : g.rooms.xs = q.ms.flatMap V
structure Rel (E V : Nat → List Value) (wid : Nat) (gs : List Grp) (qs : List PG) : Prop where
  len : gs.length = qs.length
  each : ∀ (k : Nat) (g : Grp) (q : PG), gs[k]? = some g → qs[k]? = some q → GIs E V wid g q
theorem Rel.nil (E V : Nat → List Value) (wid : Nat) : Rel E V wid [] [] := ⟨rfl, fun k g q h => by simp at h⟩
theorem Rel.find {E V : Nat → List Value} {wid : Nat} {gs : List Grp} {qs : List PG} (h : Rel E V wid gs qs) (d : Nat) (P : List Int) : (gs.map Grp.gr).findIdx? (hit d P) = qs.findIdx? (hitQ d P) := by
  have hk : gs.map (fun g => (g.d, g.P)) = qs.map (fun q => (q.d, q.P)) := by
    apply List.ext_getElem (by simp [h.len])
    intro k h1 h2
    simp at h1 h2
    have := h.each k gs[k] qs[k] (List.getElem?_eq_getElem h1) (List.getElem?_eq_getElem h2)
    simp [this.d, this.P]
  have e1 : (gs.map Grp.gr).findIdx? (hit d P) = (gs.map (fun g => (g.d, g.P))).findIdx? (fun x => decide (d = x.1 ∧ P = x.2)) := by
    rw [List.findIdx?_map, List.findIdx?_map]; rfl
  have e2 : qs.findIdx? (hitQ d P) = (qs.map (fun q => (q.d, q.P))).findIdx? (fun x => decide (d = x.1 ∧ P = x.2)) := by
    rw [List.findIdx?_map]; rfl
  rw [e1, e2, hk]
theorem flatMap_congr' {ms : List Nat} {E E' : Nat → List Value} (h : ∀ m ∈ ms, E' m = E m) : ms.flatMap E' = ms.flatMap E := by
  induction ms with
  | nil => rfl
  | cons a l ih =>
    rw [List.flatMap_cons, List.flatMap_cons, h a (by simp), ih (fun m hm => h m (by simp [hm]))]
theorem Rel.congr {E E' V : Nat → List Value} {wid : Nat} {gs : List Grp} {D : Nat → Nat} {P : Nat → List Int} {i : Nat} (h : Rel E V wid gs (pgs D P i)) (he : ∀ m, m < i → E' m = E m) : Rel E' V wid gs (pgs D P i) :=
  ⟨h.len, fun k g q hg hq => by
    have G := h.each k g q hg hq
    exact ⟨G.d, G.P, G.en, by rw [G.ex]; exact (flatMap_congr' (fun m hm => he m ((pgs_ms D P i k q hq).2 m hm))).symm, G.rn, G.rx⟩⟩

/-- One more is filed. -/
theorem Rel.step {E V : Nat → List Value} {wid : Nat} {gs gs' : List Grp} {D : Nat → Nat} {P : Nat → List Int} {i k : Nat} {g g' : Grp} (h : Rel E V wid gs (pgs D P i))
    (was : ((gs.map Grp.gr).findIdx? (hit (D i) (P i)) = some k ∧ gs[k]? = some g ∧ gs' = gs.set k g') ∨ ((gs.map Grp.gr).findIdx? (hit (D i) (P i)) = none ∧ k = gs.length ∧ g.d = D i ∧ g.P = P i ∧ g.ents = nilRow ∧ g.rooms = nilRow ∧ gs' = gs ++ [g']))
    (gr : g'.gr = g.gr) (en : g'.ents.n = g.ents.n + 1) (ex : g'.ents.xs = g.ents.xs ++ E i) (rn : g'.rooms.n = g.rooms.n + wid) (rx : g'.rooms.xs = g.rooms.xs ++ V i) :
    Rel E V wid gs' (pgs D P (i + 1)) ∧ (pgs D P (i + 1))[k]? = some ⟨D i, P i, msAt (pgs D P i) k ++ [i]⟩ ∧ gs'[k]? = some g' ∧ g.ents.n = (msAt (pgs D P i) k).length ∧ ∀ j, j ≠ k → gs'[j]? = gs[j]? ∧ (pgs D P (i + 1))[j]? = (pgs D P i)[j]? := by
  have hd : g'.d = g.d := congrArg Gr.d gr
  have hP : g'.P = g.P := congrArg Gr.P gr
  rw [h.find] at was
  rcases was with ⟨hf, hg, rfl⟩ | ⟨hf, rfl, h1, h2, h3, h4, rfl⟩
  · obtain ⟨q, hq, q1, q2, hkl⟩ := findIdx_hit hf
    have G := h.each k g q hg hq
    have hm : msAt (pgs D P i) k = q.ms := by simp [msAt, hq]
    have hgl : k < gs.length := (List.getElem?_eq_some_iff.1 hg).1
    have ep : pgs D P (i + 1) = (pgs D P i).set k ⟨D i, P i, msAt (pgs D P i) k ++ [i]⟩ := by
      show addPG _ _ _ _ = _
      unfold addPG
      rw [hf]
    rw [ep, hm]
    refine ⟨⟨by rw [List.length_set, List.length_set]; exact h.len, fun j x y hx hy => ?_⟩, List.getElem?_set_self hkl, List.getElem?_set_self hgl, G.en, fun j hj => ⟨List.getElem?_set_ne (Ne.symm hj), List.getElem?_set_ne (Ne.symm hj)⟩⟩
    rcases get_set' hx with ⟨rfl, rfl, _⟩ | ⟨hj, hx⟩
    · rcases get_set' hy with ⟨_, rfl, _⟩ | ⟨hj, _⟩
      · refine ⟨by rw [hd, G.d, q1], by rw [hP, G.P, q2], by rw [en, G.en]; simp, by rw [ex, G.ex]; simp, ?_, by rw [rx, G.rx]; simp⟩
        rw [rn, G.rn, List.length_append, List.length_singleton, Nat.succ_mul]
      · exact absurd rfl hj
    · rw [List.getElem?_set_ne (Ne.symm hj)] at hy
      exact h.each j x y hx hy
  · have ep : pgs D P (i + 1) = pgs D P i ++ [⟨D i, P i, [i]⟩] := by
      show addPG _ _ _ _ = _
      unfold addPG
      rw [hf]
    have hm : msAt (pgs D P i) gs.length = [] := by simp [msAt, h.len]
    rw [ep, hm]
    refine ⟨⟨by simp [h.len], fun j x y hx hy => ?_⟩, by rw [h.len]; simp, by simp, by rw [h3]; rfl, fun j hj => ?_⟩
    · rcases get_push hx with ⟨hj, hx⟩ | ⟨rfl, rfl⟩
      · rcases get_push hy with ⟨_, hy⟩ | ⟨e, _⟩
        · exact h.each j x y hx hy
        · rw [h.len] at hj; omega
      · rcases get_push hy with ⟨e, _⟩ | ⟨_, rfl⟩
        · rw [h.len] at e; omega
        · refine ⟨by rw [hd, h1], by rw [hP, h2], by rw [en, h3]; rfl, by rw [ex, h3]; simp [nilRow], by rw [rn, h4]; simp [nilRow], by rw [rx, h4]; simp [nilRow]⟩
    · rcases Nat.lt_or_ge j gs.length with hl | hl
      · exact ⟨List.getElem?_append_left hl, List.getElem?_append_left (by rw [← h.len]; exact hl)⟩
      · rw [List.getElem?_eq_none (by simp; omega), List.getElem?_eq_none hl, List.getElem?_eq_none (by simp; rw [← h.len]; omega), List.getElem?_eq_none (by rw [← h.len]; exact hl)]
        exact ⟨rfl, rfl⟩
end Go.Proofs.Ybulkeero
