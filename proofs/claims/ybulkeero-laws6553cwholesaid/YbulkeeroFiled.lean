/- The index of reaches: its state. -/
import Derived.Test.YbulkeeroZeros
namespace Go.Proofs.Ybulkeero
open Go.RowKit Go.Joins

/-- A group: its reach, its block, its two rows. -/
structure Grp where
  d : Nat
  P : List Int
  b : Nat
  ents : Row
  rooms : Row
def Grp.gr (g : Grp) : Gr := ⟨g.d, g.P, g.b⟩
def Grp.cells (g : Grp) : List Value := rcells g.d g.P ++ [g.ents.val, g.rooms.val]
def rowFoot (r : Row) : List Nat := match r.val.ownBlock with
  | some b => [b]
  | none => []
def Grp.foot (g : Grp) : List Nat := g.b :: (rowFoot g.ents ++ rowFoot g.rooms)
theorem mem_rowFoot {r : Row} {b : Nat} : b ∈ rowFoot r ↔ r.val.ownBlock = some b := by
  unfold rowFoot
  cases r.val.ownBlock with
  | none => simp
  | some c => simp [eq_comm]

/-- The index: the map's block, the depths' block, the groups, how many entries each depth has. -/
structure FS where
  mb : Nat
  db : Nat
  gs : List Grp
  cnt : List Nat
def FS.foot (S : FS) : List Nat := S.mb :: S.db :: S.gs.flatMap Grp.foot

/-- A group's own blocks are three. -/
def Grp.Own (g : Grp) : Prop := g.b ∉ rowFoot g.ents ∧ g.b ∉ rowFoot g.rooms ∧ ∀ b ∈ rowFoot g.ents, b ∉ rowFoot g.rooms
/-- No block serves two ends. -/
structure Apt (S : FS) : Prop where
  top : S.mb ≠ S.db
  m : ∀ g ∈ S.gs, S.mb ∉ g.foot
  d : ∀ g ∈ S.gs, S.db ∉ g.foot
  own : ∀ g ∈ S.gs, g.Own
  two : ∀ (i j : Nat) (gi gj : Grp), S.gs[i]? = some gi → S.gs[j]? = some gj → i ≠ j → ∀ b ∈ gi.foot, b ∉ gj.foot
theorem foot_of {S : FS} {g : Grp} (hg : g ∈ S.gs) {b : Nat} (hb : b ∈ g.foot) : b ∈ S.foot := by
  simp only [FS.foot, List.mem_cons, List.mem_flatMap]
  exact .inr (.inr ⟨g, hg, hb⟩)
theorem get_set {gs : List Grp} {k i : Nat} {g' x : Grp} (h : (gs.set k g')[i]? = some x) : (i = k ∧ x = g') ∨ (i ≠ k ∧ gs[i]? = some x) := by
  by_cases e : i = k
  · subst e
    have hl := (List.getElem?_eq_some_iff.1 h).1
    rw [List.length_set] at hl
    rw [List.getElem?_set_self hl] at h
    exact .inl ⟨rfl, (Option.some.inj h).symm⟩
  · rw [List.getElem?_set_ne (Ne.symm e)] at h
    exact .inr ⟨e, h⟩
/-- A group is written anew. -/
theorem Apt.set {S : FS} {k N : Nat} {g g' : Grp} (h : Apt S) (hg : S.gs[k]? = some g) (hlt : ∀ b ∈ S.foot, b < N) (hf : ∀ b ∈ g'.foot, b ∈ g.foot ∨ N ≤ b) (ho : g'.Own) (cnt : List Nat) : Apt ⟨S.mb, S.db, S.gs.set k g', cnt⟩ := by
  have hgm := List.mem_of_getElem? hg
  have hmb : S.mb < N := hlt _ (by simp [FS.foot])
  have hdb : S.db < N := hlt _ (by simp [FS.foot])
  refine ⟨h.top, fun x hx hb => ?_, fun x hx hb => ?_, fun x hx => ?_, fun i j gi gj hi hj hij b hb1 hb2 => ?_⟩
  · rcases List.mem_or_eq_of_mem_set hx with hx | rfl
    · exact h.m x hx hb
    · rcases hf _ hb with h1 | h1
      · exact h.m g hgm h1
      · simp only at h1; omega
  · rcases List.mem_or_eq_of_mem_set hx with hx | rfl
    · exact h.d x hx hb
    · rcases hf _ hb with h1 | h1
      · exact h.d g hgm h1
      · simp only at h1; omega
  · rcases List.mem_or_eq_of_mem_set hx with hx | rfl
    · exact h.own x hx
    · exact ho
  · rcases get_set hi with ⟨rfl, rfl⟩ | ⟨hik, hi2⟩
    · rcases get_set hj with ⟨rfl, rfl⟩ | ⟨hjk, hj2⟩
      · exact hij rfl
      · rcases hf b hb1 with h1 | h1
        · exact h.two _ _ g gj hg hj2 hij b h1 hb2
        · have := hlt b (foot_of (List.mem_of_getElem? hj2) hb2); omega
    · rcases get_set hj with ⟨rfl, rfl⟩ | ⟨hjk, hj2⟩
      · rcases hf b hb2 with h1 | h1
        · exact h.two _ _ gi g hi2 hg hij b hb1 h1
        · have := hlt b (foot_of (List.mem_of_getElem? hi2) hb1); omega
      · exact h.two i j gi gj hi2 hj2 hij b hb1 hb2
/-- A new group. -/
theorem Apt.push {S : FS} {N : Nat} {g' : Grp} (h : Apt S) (hlt : ∀ b ∈ S.foot, b < N) (hf : ∀ b ∈ g'.foot, N ≤ b) (ho : g'.Own) (cnt : List Nat) : Apt ⟨S.mb, S.db, S.gs ++ [g'], cnt⟩ := by
  have hmb : S.mb < N := hlt _ (by simp [FS.foot])
  have hdb : S.db < N := hlt _ (by simp [FS.foot])
  have gg : ∀ {i : Nat} {x : Grp}, (S.gs ++ [g'])[i]? = some x → (i < S.gs.length ∧ S.gs[i]? = some x) ∨ (i = S.gs.length ∧ x = g') := by
    intro i x hi
    rcases Nat.lt_or_ge i S.gs.length with h1 | h1
    · rw [List.getElem?_append_left h1] at hi; exact .inl ⟨h1, hi⟩
    · rw [List.getElem?_append_right h1] at hi
      have hl := (List.getElem?_eq_some_iff.1 hi).1
      simp at hl
      rw [hl] at hi
      simp at hi
      exact .inr ⟨by omega, hi.symm⟩
  refine ⟨h.top, fun x hx hb => ?_, fun x hx hb => ?_, fun x hx => ?_, fun i j gi gj hi hj hij b hb1 hb2 => ?_⟩
  · rcases List.mem_append.1 hx with hx | hx
    · exact h.m x hx hb
    · rw [List.mem_singleton.1 hx] at hb; have := hf _ hb; simp only at this; omega
  · rcases List.mem_append.1 hx with hx | hx
    · exact h.d x hx hb
    · rw [List.mem_singleton.1 hx] at hb; have := hf _ hb; simp only at this; omega
  · rcases List.mem_append.1 hx with hx | hx
    · exact h.own x hx
    · rw [List.mem_singleton.1 hx]; exact ho
  · rcases gg hi with ⟨_, hi2⟩ | ⟨hi1, rfl⟩
    · rcases gg hj with ⟨_, hj2⟩ | ⟨hj1, rfl⟩
      · exact h.two i j gi gj hi2 hj2 hij b hb1 hb2
      · have := hlt b (foot_of (List.mem_of_getElem? hi2) hb1); have := hf b hb2; omega
    · rcases gg hj with ⟨_, hj2⟩ | ⟨hj1, rfl⟩
      · have := hlt b (foot_of (List.mem_of_getElem? hj2) hb2); have := hf b hb1; omega
      · omega

/-- One group in memory. -/
structure GAt (B : Nat) (w : World) (g : Grp) : Prop where
  blk : w.heap[g.b]? = some (.cells g.cells.toArray 152 (0, 0))
  len : g.P.length = 20
  ents : w.ownsRow B 145 48 g.ents.val g.ents.n g.ents.xs
  rooms : w.ownsRow B 23 1 g.rooms.val g.rooms.n g.rooms.xs

/-- The index in memory. -/
structure FAt (B rb wid : Nat) (w : World) (S : FS) : Prop where
  lt : rb < B
  size : B ≤ w.heap.size
  blk : w.heap[rb]? = some (.cells #[.int .i64 (wid : Int), .map (some S.mb), .pointer (some ⟨S.db, 0, none⟩)] 127 (0, 0))
  map : ∃ es clock, w.heap[S.mb]? = some (.map es clock) ∧ MapIs es.toList (S.gs.map Grp.gr)
  dep : w.heap[S.db]? = some (.cells (S.cnt.map fun c : Nat => Value.int .i64 (c : Int)).toArray 173 (0, 0))
  cnt : S.cnt.length = 161
  grp : ∀ g ∈ S.gs, GAt B w g
  sep : Apt S
  ge : ∀ b ∈ S.foot, B ≤ b

theorem GAt.fr {B : Nat} {w w' : World} {g : Grp} {may : Nat → Prop} (h : GAt B w g) (F : Fr w w' may) (hm : ∀ b ∈ g.foot, ¬ may b) : GAt B w' g := by
  have hlt : g.b < w.heap.size := (Array.getElem?_eq_some_iff.1 h.blk).1
  refine ⟨by rw [F.block g.b hlt (hm _ (by simp [Grp.foot]))]; exact h.blk, h.len, owns_fr h.ents F (fun b hb => hm b (by simp [Grp.foot, mem_rowFoot.2 hb])), owns_fr h.rooms F (fun b hb => hm b (by simp [Grp.foot, mem_rowFoot.2 hb]))⟩

theorem FAt.lt_foot {B rb wid : Nat} {w : World} {S : FS} (h : FAt B rb wid w S) : ∀ b ∈ S.foot, b < w.heap.size := by
  intro b hb
  simp only [FS.foot, List.mem_cons, List.mem_flatMap] at hb
  rcases hb with rfl | rfl | ⟨g, hg, hb⟩
  · obtain ⟨es, cl, hm, _⟩ := h.map; exact (Array.getElem?_eq_some_iff.1 hm).1
  · exact (Array.getElem?_eq_some_iff.1 h.dep).1
  · have G := h.grp g hg
    simp only [Grp.foot, List.mem_cons, List.mem_append] at hb
    rcases hb with rfl | hb | hb
    · exact (Array.getElem?_eq_some_iff.1 G.blk).1
    · exact (G.ents.lt _ (mem_rowFoot.1 hb)).2
    · exact (G.rooms.lt _ (mem_rowFoot.1 hb)).2
theorem FAt.rbLt {B rb wid : Nat} {w : World} {S : FS} (h : FAt B rb wid w S) : rb < w.heap.size := Nat.lt_of_lt_of_le h.lt h.size

/-- A world in which nothing of the index was written. -/
theorem FAt.fr {B rb wid : Nat} {w w' : World} {S : FS} {may : Nat → Prop} (h : FAt B rb wid w S) (F : Fr w w' may) (hr : ¬ may rb) (hm : ∀ b ∈ S.foot, ¬ may b) : FAt B rb wid w' S := by
  have hl := h.lt_foot
  refine ⟨h.lt, Nat.le_trans h.size F.size, by rw [F.block rb h.rbLt hr]; exact h.blk, ?_, ?_, h.cnt, fun g hg => (h.grp g hg).fr F (fun b hb => hm b ?_), h.sep, h.ge⟩
  · obtain ⟨es, cl, hmb, his⟩ := h.map
    exact ⟨es, cl, by rw [F.block S.mb (hl _ (by simp [FS.foot])) (hm _ (by simp [FS.foot]))]; exact hmb, his⟩
  · rw [F.block S.db (hl _ (by simp [FS.foot])) (hm _ (by simp [FS.foot]))]; exact h.dep
  · simp only [FS.foot, List.mem_cons, List.mem_flatMap]
    exact .inr (.inr ⟨g, hg, hb⟩)
theorem fr_of_grown {w w' : World} (h : w.grownBy w' none) : Fr w w' (fun _ => False) := ⟨h.os, h.tape, h.output, h.size, fun k hk _ => h.block k hk (by simp)⟩
theorem fr_at {w w' : World} {c : Nat} (h : w.grownBy w' (some c)) : Fr w w' (fun j => j = c) := ⟨h.os, h.tape, h.output, h.size, fun k hk hm => h.block k hk (by simpa using hm)⟩
theorem fr_own {w w' : World} {r : Row} (h : w.grownBy w' r.val.ownBlock) : Fr w w' (fun j => j ∈ rowFoot r) := ⟨h.os, h.tape, h.output, h.size, fun k hk hm => h.block k hk (fun e => hm (mem_rowFoot.2 e.symm))⟩
theorem FAt.grown {B rb wid : Nat} {w w' : World} {S : FS} (h : FAt B rb wid w S) (hg : w.grownBy w' none) : FAt B rb wid w' S := h.fr (fr_of_grown hg) (by simp) (by simp)
end Go.Proofs.Ybulkeero
