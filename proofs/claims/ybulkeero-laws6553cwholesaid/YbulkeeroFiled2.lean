/- The index of reaches: its moves. -/
import Derived.Test.YbulkeeroFiled
namespace Go.Proofs.Ybulkeero
open Go.RowKit Go.Joins

theorem set_same {α : Type} {l : List α} {k : Nat} {x : α} (h : l[k]? = some x) : l.set k x = l := by
  apply List.ext_getElem?
  intro i
  by_cases e : i = k
  · subst e
    rw [List.getElem?_set_self (List.getElem?_eq_some_iff.1 h).1, h]
  · rw [List.getElem?_set_ne (Ne.symm e)]
theorem map_gr_set {gs : List Grp} {k : Nat} {g g' : Grp} (hg : gs[k]? = some g) (he : g'.gr = g.gr) : (gs.set k g').map Grp.gr = gs.map Grp.gr := by
  rw [List.map_set, he]
  exact set_same (by rw [List.getElem?_map, hg]; rfl)
theorem foot_set {S : FS} {k : Nat} {g g' : Grp} (hg : S.gs[k]? = some g) {N : Nat} (hf : ∀ b ∈ g'.foot, b ∈ g.foot ∨ N ≤ b) {cnt : List Nat} : ∀ b ∈ (FS.mk S.mb S.db (S.gs.set k g') cnt).foot, b ∈ S.foot ∨ N ≤ b := by
  intro b hb
  simp only [FS.foot, List.mem_cons, List.mem_flatMap] at hb ⊢
  rcases hb with h | h | ⟨x, hx, hb⟩
  · exact .inl (.inl h)
  · exact .inl (.inr (.inl h))
  · rcases List.mem_or_eq_of_mem_set hx with hx | rfl
    · exact .inl (.inr (.inr ⟨x, hx, hb⟩))
    · rcases hf b hb with h1 | h1
      · exact .inl (.inr (.inr ⟨g, List.mem_of_getElem? hg, h1⟩))
      · exact .inr h1

/-- A group is written anew. -/
theorem FAt.setG {B rb wid k : Nat} {w w' : World} {S : FS} {g g' : Grp} (h : FAt B rb wid w S) (hg : S.gs[k]? = some g) (F : Fr w w' (fun j => j ∈ g.foot)) (G : GAt B w' g') (he : g'.gr = g.gr) (hf : ∀ b ∈ g'.foot, b ∈ g.foot ∨ w.heap.size ≤ b) (ho : g'.Own) :
    FAt B rb wid w' ⟨S.mb, S.db, S.gs.set k g', S.cnt⟩ := by
  have hl := h.lt_foot
  have hgm := List.mem_of_getElem? hg
  have hrb : rb ∉ g.foot := fun hb => by have := h.ge _ (foot_of hgm hb); have := h.lt; omega
  refine ⟨h.lt, Nat.le_trans h.size F.size, by rw [F.block rb h.rbLt hrb]; exact h.blk, ?_, ?_, h.cnt, fun x hx => ?_, h.sep.set hg hl hf ho S.cnt, fun b hb => ?_⟩
  · obtain ⟨es, cl, hm, his⟩ := h.map
    refine ⟨es, cl, by rw [F.block S.mb (hl _ (by simp [FS.foot])) (h.sep.m g hgm)]; exact hm, ?_⟩
    rw [map_gr_set hg he]
    exact his
  · rw [F.block S.db (hl _ (by simp [FS.foot])) (h.sep.d g hgm)]
    exact h.dep
  · obtain ⟨i, hi⟩ := List.mem_iff_getElem?.1 hx
    rcases get_set hi with ⟨-, rfl⟩ | ⟨hne, hi2⟩
    · exact G
    · exact (h.grp x (List.mem_of_getElem? hi2)).fr F (fun b hb => h.sep.two i k x g hi2 hg hne b hb)
  · rcases foot_set hg hf b hb with h1 | h1
    · exact h.ge b h1
    · have := h.size; omega

/-- One more at a depth. -/
theorem FAt.count {B rb wid d c : Nat} {w : World} {S : FS} (h : FAt B rb wid w S) (_hd : S.cnt[d]? = some c) :
    FAt B rb wid (w.setCell ⟨S.db, d, none⟩ (.int .i64 ((c + 1 : Nat) : Int))) ⟨S.mb, S.db, S.gs, S.cnt.set d (c + 1)⟩ := by
  have hl := h.lt_foot
  have F := fr_at (setCell_grown w S.db d (.int .i64 ((c + 1 : Nat) : Int)))
  have hrb : rb ≠ S.db := fun e => by have := h.ge S.db (by simp [FS.foot]); have := h.lt; omega
  refine ⟨h.lt, Nat.le_trans h.size F.size, by rw [F.block rb h.rbLt hrb]; exact h.blk, ?_, ?_, by simp [h.cnt], fun x hx => (h.grp x hx).fr F (fun b hb e => ?_), ⟨h.sep.top, h.sep.m, h.sep.d, h.sep.own, h.sep.two⟩, h.ge⟩
  · obtain ⟨es, cl, hm, his⟩ := h.map
    exact ⟨es, cl, by rw [F.block S.mb (hl _ (by simp [FS.foot])) h.sep.top]; exact hm, his⟩
  · rw [block_setCell h.dep]
    simp [List.map_set]
  · subst e
    exact h.sep.d x hx hb

/-- A group is new. -/
theorem FAt.pushG {B rb wid d b : Nat} {P : List Int} {w : World} {S : FS} {es : Array MapEntry} {clock : Nat} (h : FAt B rb wid w S) (_hm : w.heap[S.mb]? = some (.map es clock)) (his : MapIs es.toList (S.gs.map Grp.gr)) (hP : P.length = 20) (hb : w.heap[b]? = some (.cells (Grp.mk d P b nilRow nilRow).cells.toArray 152 (0, 0))) (hn : b ∉ S.foot) (hB : B ≤ b) :
    FAt B rb wid (putO w S.mb (.map (es.push { key := rv d P, val := .pointer (some ⟨b, 0, none⟩), born := clock }) (clock + 1))) ⟨S.mb, S.db, S.gs ++ [⟨d, P, b, nilRow, nilRow⟩], S.cnt⟩ := by
  have hl := h.lt_foot
  have F := fr_at (putO_grown w S.mb (.map (es.push { key := rv d P, val := .pointer (some ⟨b, 0, none⟩), born := clock }) (clock + 1)))
  have hrb : rb ≠ S.mb := fun e => by have := h.ge S.mb (by simp [FS.foot]); have := h.lt; omega
  have hbm : b ≠ S.mb := fun e => hn (by simp [FS.foot, e])
  have hbl : b < w.heap.size := (Array.getElem?_eq_some_iff.1 hb).1
  have hft : (Grp.mk d P b nilRow nilRow).foot = [b] := rfl
  refine ⟨h.lt, Nat.le_trans h.size F.size, by rw [F.block rb h.rbLt hrb]; exact h.blk, ?_, ?_, h.cnt, fun x hx => ?_, ?_, fun c hc => ?_⟩
  · refine ⟨_, _, putO_same (hl _ (by simp [FS.foot])), ?_⟩
    rw [List.map_append]
    exact his.push hP
  · rw [F.block S.db (hl _ (by simp [FS.foot])) (Ne.symm h.sep.top)]
    exact h.dep
  · rcases List.mem_append.1 hx with hx | hx
    · exact (h.grp x hx).fr F (fun c hc e => h.sep.m x hx (e ▸ hc))
    · rw [List.mem_singleton.1 hx]
      exact ⟨by rw [F.block b hbl hbm]; exact hb, hP, World.ownsRow_nil _ _ _ _, World.ownsRow_nil _ _ _ _⟩
  · refine ⟨h.sep.top, fun x hx hc => ?_, fun x hx hc => ?_, fun x hx => ?_, fun i j gi gj hi hj hij c hc1 hc2 => ?_⟩
    · rcases List.mem_append.1 hx with hx | hx
      · exact h.sep.m x hx hc
      · rw [List.mem_singleton.1 hx, hft] at hc; exact hbm (List.mem_singleton.1 hc).symm
    · rcases List.mem_append.1 hx with hx | hx
      · exact h.sep.d x hx hc
      · rw [List.mem_singleton.1 hx, hft] at hc; exact hn (by rw [← List.mem_singleton.1 hc]; simp [FS.foot])
    · rcases List.mem_append.1 hx with hx | hx
      · exact h.sep.own x hx
      · rw [List.mem_singleton.1 hx]; simp [Grp.Own, rowFoot, nilRow, Row.val, Value.ownBlock]
    · have gg : ∀ {i : Nat} {x : Grp}, (S.gs ++ [Grp.mk d P b nilRow nilRow])[i]? = some x → (S.gs[i]? = some x) ∨ (i = S.gs.length ∧ x = ⟨d, P, b, nilRow, nilRow⟩) := by
        intro i x hi
        rcases Nat.lt_or_ge i S.gs.length with h1 | h1
        · rw [List.getElem?_append_left h1] at hi; exact .inl hi
        · rw [List.getElem?_append_right h1] at hi
          have hl := (List.getElem?_eq_some_iff.1 hi).1
          simp at hl
          rw [hl] at hi
          simp at hi
          exact .inr ⟨by omega, hi.symm⟩
      rcases gg hi with hi2 | ⟨hi1, rfl⟩
      · rcases gg hj with hj2 | ⟨hj1, rfl⟩
        · exact h.sep.two i j gi gj hi2 hj2 hij c hc1 hc2
        · rw [hft] at hc2; rw [List.mem_singleton.1 hc2] at hc1; exact hn (foot_of (List.mem_of_getElem? hi2) hc1)
      · rcases gg hj with hj2 | ⟨hj1, rfl⟩
        · rw [hft] at hc1; rw [List.mem_singleton.1 hc1] at hc2; exact hn (foot_of (List.mem_of_getElem? hj2) hc2)
        · omega
  · simp only [FS.foot, List.mem_cons, List.mem_flatMap, List.mem_append, List.not_mem_nil, or_false] at hc
    rcases hc with hc | hc | ⟨x, hx | hx, hc⟩
    · rw [hc]; exact h.ge _ (by simp [FS.foot])
    · rw [hc]; exact h.ge _ (by simp [FS.foot])
    · exact h.ge _ (foot_of hx hc)
    · rw [hx, hft] at hc; rw [List.mem_singleton.1 hc]; exact hB
end Go.Proofs.Ybulkeero
