/- The index of reaches: a row of a group grows; what file leaves. -/
import Derived.Test.YbulkeeroRoom
namespace Go.Proofs.Ybulkeero
open Go.RowKit Go.Joins

theorem Fr.mono {w w' : World} {m m' : Nat → Prop} (h : Fr w w' m) (hm : ∀ j, m j → m' j) : Fr w w' m' := ⟨h.os, h.tape, h.output, h.size, fun k hk hn => h.block k hk (fun x => hn (hm k x))⟩
theorem Fr.chain {a b c : World} {m1 m2 m : Nat → Prop} (h : Fr a b m1) (k : Fr b c m2) (h1 : ∀ j, m1 j → m j) (h2 : ∀ j, j < a.heap.size → m2 j → m j) : Fr a c m :=
  ⟨k.os.trans h.os, k.tape.trans h.tape, k.output.trans h.output, Nat.le_trans h.size k.size, fun j hj hn => (k.block j (Nat.lt_of_lt_of_le hj h.size) (fun x => hn (h2 j hj x))).trans (h.block j hj (fun x => hn (h1 j x)))⟩
theorem Fr.drew (w : World) (may : Nat → Prop) : Fr w w.drew may := ⟨rfl, rfl, rfl, Nat.le_refl _, fun _ _ _ => rfl⟩

/-- A row grows where it lies, or in a new block. -/
def At' (w : World) (old new : Row) : Prop := new.a = old.a ∨ ∃ g, new.a = some ⟨g, 0, none⟩ ∧ w.heap.size ≤ g
theorem At'.foot {w : World} {old new : Row} (h : At' w old new) : ∀ b ∈ rowFoot new, b ∈ rowFoot old ∨ w.heap.size ≤ b := by
  intro b hb
  obtain ⟨x, hx, hxb⟩ := own_block.1 (mem_rowFoot.1 hb)
  rcases h with e | ⟨g, e, hge⟩
  · exact .inl (mem_rowFoot.2 (own_block.2 ⟨x, by rw [← e]; exact hx, hxb⟩))
  · rw [e] at hx
    cases hx
    simp only at hxb
    exact .inr (hxb ▸ hge)
theorem Grp.cells_length {g : Grp} (h : g.P.length = 20) : g.cells.length = 23 := by simp [Grp.cells, rcells_length, h]
theorem Grp.cells_rooms {g : Grp} (h : g.P.length = 20) (r : Row) : g.cells.set 22 r.val = ({ g with rooms := r } : Grp).cells := by
  simp only [Grp.cells]
  rw [List.set_append_right _ _ (by rw [rcells_length, h]; omega), rcells_length, h]
  rfl
theorem Grp.cells_ents {g : Grp} (h : g.P.length = 20) (r : Row) : g.cells.set 21 r.val = ({ g with ents := r } : Grp).cells := by
  simp only [Grp.cells]
  rw [List.set_append_right _ _ (by rw [rcells_length, h]; omega), rcells_length, h]
  rfl
theorem Grp.cell_21 {g : Grp} (h : g.P.length = 20) : g.cells[21]? = some g.ents.val := by
  simp only [Grp.cells]
  rw [List.getElem?_append_right (by rw [rcells_length, h]; omega), rcells_length, h]
  rfl
theorem Grp.cell_22 {g : Grp} (h : g.P.length = 20) : g.cells[22]? = some g.rooms.val := by
  simp only [Grp.cells]
  rw [List.getElem?_append_right (by rw [rcells_length, h]; omega), rcells_length, h]
  rfl
theorem GAt.c21 {B : Nat} {w : World} {g : Grp} (h : GAt B w g) : w.cell? ⟨g.b, 21, none⟩ = some g.ents.val ∧ w.frozen? ⟨g.b, 21, none⟩ = false := by
  refine ⟨?_, unfrozen_of_block h.blk _⟩
  rw [cell_of_block h.blk, List.getElem?_toArray]
  exact Grp.cell_21 h.len
theorem GAt.c22 {B : Nat} {w : World} {g : Grp} (h : GAt B w g) : w.cell? ⟨g.b, 22, none⟩ = some g.rooms.val ∧ w.frozen? ⟨g.b, 22, none⟩ = false := by
  refine ⟨?_, unfrozen_of_block h.blk _⟩
  rw [cell_of_block h.blk, List.getElem?_toArray]
  exact Grp.cell_22 h.len
theorem Own.rooms {g : Grp} {r : Row} {N : Nat} (h : g.Own) (hb : g.b < N) (he : ∀ b ∈ rowFoot g.ents, b < N) (hr : ∀ b ∈ rowFoot r, b ∈ rowFoot g.rooms ∨ N ≤ b) : ({ g with rooms := r } : Grp).Own := by
  refine ⟨h.1, fun x => ?_, fun b x y => ?_⟩
  · rcases hr _ x with k | k
    · exact h.2.1 k
    · simp only at k; omega
  · rcases hr _ y with k | k
    · exact h.2.2 b x k
    · have := he b x; omega
theorem Own.ents {g : Grp} {r : Row} {N : Nat} (h : g.Own) (hb : g.b < N) (he : ∀ b ∈ rowFoot g.rooms, b < N) (hr : ∀ b ∈ rowFoot r, b ∈ rowFoot g.ents ∨ N ≤ b) : ({ g with ents := r } : Grp).Own := by
  refine ⟨fun x => ?_, h.2.1, fun b x y => ?_⟩
  · rcases hr _ x with k | k
    · exact h.1 k
    · simp only at k; omega
  · rcases hr _ x with k | k
    · exact h.2.2 b k y
    · have := he b y; omega

/-- The rooms grow. -/
theorem FAt.rooms {B rb wid k : Nat} {w w1 : World} {S : FS} {g : Grp} (h : FAt B rb wid w S) (hg : S.gs[k]? = some g) (r : Row) (hgr : w.grownBy w1 g.rooms.val.ownBlock) (hown : w1.ownsRow B 23 1 r.val r.n r.xs) (hat : At' w g.rooms r) :
    FAt B rb wid (w1.setCell ⟨g.b, 22, none⟩ r.val) ⟨S.mb, S.db, S.gs.set k { g with rooms := r }, S.cnt⟩ ∧ Fr w (w1.setCell ⟨g.b, 22, none⟩ r.val) (fun j => j ∈ g.foot) ∧ ∀ b ∈ ({ g with rooms := r } : Grp).foot, b ∈ g.foot ∨ w.heap.size ≤ b := by
  have hgm := List.mem_of_getElem? hg
  have G := h.grp g hgm
  have O := h.sep.own g hgm
  have hl := h.lt_foot
  have hbl : g.b < w.heap.size := hl _ (foot_of hgm (by simp [Grp.foot]))
  have F1 := fr_own (r := g.rooms) hgr
  have F2 := fr_at (setCell_grown w1 g.b 22 r.val)
  have F : Fr w (w1.setCell ⟨g.b, 22, none⟩ r.val) (fun j => j ∈ g.foot) := F1.chain F2 (fun j hj => by simp [Grp.foot, hj]) (fun j _ e => by simp [Grp.foot, e])
  have hf : ∀ b ∈ ({ g with rooms := r } : Grp).foot, b ∈ g.foot ∨ w.heap.size ≤ b := by
    intro b hb
    simp only [Grp.foot, List.mem_cons, List.mem_append] at hb ⊢
    rcases hb with hb | hb | hb
    · exact .inl (.inl hb)
    · exact .inl (.inr (.inl hb))
    · rcases hat.foot b hb with k | k
      · exact .inl (.inr (.inr k))
      · exact .inr k
  refine ⟨h.setG hg F ⟨?_, G.len, ?_, ?_⟩ rfl hf (Own.rooms O hbl (fun b hb => hl b (foot_of hgm (by simp [Grp.foot, hb]))) hat.foot), F, hf⟩
  · have hb1 : w1.heap[g.b]? = some (.cells g.cells.toArray 152 (0, 0)) := (F1.block g.b hbl O.2.1).trans G.blk
    show (w1.setCell ⟨g.b, 22, none⟩ r.val).heap[g.b]? = _
    rw [block_setCell hb1, List.setIfInBounds_toArray, Grp.cells_rooms G.len]
  · refine owns_fr (owns_fr G.ents F1 (fun b hb => O.2.2 b (mem_rowFoot.2 hb))) F2 (fun b hb e => O.1 (mem_rowFoot.2 (e ▸ hb)))
  · refine owns_fr hown F2 (fun b hb e => ?_)
    subst e
    rcases hat.foot _ (mem_rowFoot.2 hb) with k | k
    · exact O.2.1 k
    · omega

/-- The entries grow. -/
theorem FAt.ents {B rb wid k : Nat} {w w1 : World} {S : FS} {g : Grp} (h : FAt B rb wid w S) (hg : S.gs[k]? = some g) (r : Row) (hgr : w.grownBy w1 g.ents.val.ownBlock) (hown : w1.ownsRow B 145 48 r.val r.n r.xs) (hat : At' w g.ents r) :
    FAt B rb wid (w1.setCell ⟨g.b, 21, none⟩ r.val) ⟨S.mb, S.db, S.gs.set k { g with ents := r }, S.cnt⟩ ∧ Fr w (w1.setCell ⟨g.b, 21, none⟩ r.val) (fun j => j ∈ g.foot) ∧ ∀ b ∈ ({ g with ents := r } : Grp).foot, b ∈ g.foot ∨ w.heap.size ≤ b := by
  have hgm := List.mem_of_getElem? hg
  have G := h.grp g hgm
  have O := h.sep.own g hgm
  have hl := h.lt_foot
  have hbl : g.b < w.heap.size := hl _ (foot_of hgm (by simp [Grp.foot]))
  have F1 := fr_own (r := g.ents) hgr
  have F2 := fr_at (setCell_grown w1 g.b 21 r.val)
  have F : Fr w (w1.setCell ⟨g.b, 21, none⟩ r.val) (fun j => j ∈ g.foot) := F1.chain F2 (fun j hj => by simp [Grp.foot, hj]) (fun j _ e => by simp [Grp.foot, e])
  have hf : ∀ b ∈ ({ g with ents := r } : Grp).foot, b ∈ g.foot ∨ w.heap.size ≤ b := by
    intro b hb
    simp only [Grp.foot, List.mem_cons, List.mem_append] at hb ⊢
    rcases hb with hb | hb | hb
    · exact .inl (.inl hb)
    · rcases hat.foot b hb with k | k
      · exact .inl (.inr (.inl k))
      · exact .inr k
    · exact .inl (.inr (.inr hb))
  refine ⟨h.setG hg F ⟨?_, G.len, ?_, ?_⟩ rfl hf (Own.ents O hbl (fun b hb => hl b (foot_of hgm (by simp [Grp.foot, hb]))) hat.foot), F, hf⟩
  · have hb1 : w1.heap[g.b]? = some (.cells g.cells.toArray 152 (0, 0)) := (F1.block g.b hbl O.1).trans G.blk
    show (w1.setCell ⟨g.b, 21, none⟩ r.val).heap[g.b]? = _
    rw [block_setCell hb1, List.setIfInBounds_toArray, Grp.cells_ents G.len]
  · refine owns_fr hown F2 (fun b hb e => ?_)
    subst e
    rcases hat.foot _ (mem_rowFoot.2 hb) with k | k
    · exact O.1 k
    · omega
  · refine owns_fr (owns_fr G.rooms F1 (fun b hb e => O.2.2 b e (mem_rowFoot.2 hb))) F2 (fun b hb e => O.2.1 (mem_rowFoot.2 (e ▸ hb)))

/-- The rooms are written where they lie. -/
theorem FAt.written {B rb wid k : Nat} {w w1 : World} {S : FS} {g : Grp} (h : FAt B rb wid w S) (hg : S.gs[k]? = some g) (xs : List Value) (hgr : w.grownBy w1 g.rooms.val.ownBlock) (hown : w1.ownsRow B 23 1 g.rooms.val g.rooms.n xs) :
    FAt B rb wid w1 ⟨S.mb, S.db, S.gs.set k { g with rooms := { g.rooms with xs := xs } }, S.cnt⟩ ∧ Fr w w1 (fun j => j ∈ g.foot) := by
  have hgm := List.mem_of_getElem? hg
  have G := h.grp g hgm
  have O := h.sep.own g hgm
  have hl := h.lt_foot
  have hbl : g.b < w.heap.size := hl _ (foot_of hgm (by simp [Grp.foot]))
  have F1 := fr_own (r := g.rooms) hgr
  have F : Fr w w1 (fun j => j ∈ g.foot) := F1.mono (fun j hj => by simp [Grp.foot, hj])
  refine ⟨h.setG hg F ⟨(F1.block g.b hbl O.2.1).trans G.blk, G.len, ?_, hown⟩ rfl (fun b hb => .inl hb) O, F⟩
  exact owns_fr G.ents F1 (fun b hb => O.2.2 b (mem_rowFoot.2 hb))

/-- What the filing of one entry into group k leaves. -/
structure Done (B rb wid : Nat) (w : World) (S : FS) (k d c : Nat) (g' : Grp) (w' : World) : Prop where
  at' : FAt B rb wid w' ⟨S.mb, S.db, S.gs.set k g', S.cnt.set d (c + 1)⟩
  fr : Fr w w' (fun j => j ∈ S.foot)
  ft : ∀ b ∈ g'.foot, b ∈ S.foot ∨ w.heap.size ≤ b
/-- One step ahead. -/
theorem Done.after {B rb wid : Nat} {w w1 w' : World} {S : FS} {k d c : Nat} {g1 g' : Grp} (F : Fr w w1 (fun j => j ∈ S.foot)) (hf : ∀ b ∈ g1.foot, b ∈ S.foot ∨ w.heap.size ≤ b) (D : Done B rb wid w1 ⟨S.mb, S.db, S.gs.set k g1, S.cnt⟩ k d c g' w') : Done B rb wid w S k d c g' w' := by
  have hfoot : ∀ b ∈ (FS.mk S.mb S.db (S.gs.set k g1) S.cnt).foot, b ∈ S.foot ∨ w.heap.size ≤ b := by
    intro b hb
    simp only [FS.foot, List.mem_cons, List.mem_flatMap] at hb
    rcases hb with rfl | rfl | ⟨x, hx, hb⟩
    · exact .inl (by simp [FS.foot])
    · exact .inl (by simp [FS.foot])
    · rcases List.mem_or_eq_of_mem_set hx with hx | rfl
      · exact .inl (foot_of hx hb)
      · exact hf b hb
  refine ⟨?_, F.chain D.fr (fun _ h => h) (fun j hj hm => ?_), fun b hb => ?_⟩
  · have := D.at'
    simp only [List.set_set] at this
    exact this
  · rcases hfoot j hm with h | h
    · exact h
    · omega
  · rcases D.ft b hb with h | h
    · exact hfoot b h
    · exact .inr (Nat.le_trans F.size h)
end Go.Proofs.Ybulkeero
