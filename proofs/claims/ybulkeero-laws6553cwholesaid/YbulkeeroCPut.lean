/- The law 6553C: the groups the law makes grow. -/
import Derived.Test.YbulkeeroCFind
namespace Go.Proofs.Ybulkeero
open Go.RowKit Go.Joins

theorem own_lt {w : World} {base : Nat} {e : TypeId} {size : Nat} {r : Row} {n : Nat} {xs : List Value} (h : w.ownsRow base e size r.val n xs) {b : Nat} (hb : b ∈ rowFoot r) : base ≤ b ∧ b < w.heap.size := h.lt b (mem_rowFoot.1 hb)
theorem foot_of_a {r : Row} {g : Nat} (h : r.a = some ⟨g, 0, none⟩) {b : Nat} : b ∈ rowFoot r ↔ b = g := by
  rw [mem_rowFoot]
  unfold Row.val Value.ownBlock
  rw [h]
  simp [eq_comm]
theorem foot_nil {b : Nat} (h : b ∈ rowFoot nilRow) : False := by
  have := mem_rowFoot.1 h
  cases this

/-- A member comes to a group. -/
theorem MAt.put {base : Nat} {R : Row} {L : List MG} {w w1 w2 : World} {k gsb i : Nat} {x : MG} {a' : Option Addr} {c' : Nat} (M : MAt base R L w) (hx : L[k]? = some x) (hR : R.a = some ⟨gsb, 0, none⟩) (G1 : w.grownBy w1 none)
    (hown : w2.ownsRow base 3 1 (.slice a' (x.r.n + 1) c') (x.r.n + 1) (mems x.q ++ [.int .i64 (i : Int)])) (hg : w1.grownBy w2 x.r.val.ownBlock) (hat : a' = x.r.a ∨ ∃ g, a' = some ⟨g, 0, none⟩ ∧ w1.heap.size ≤ g) :
    MAt base R (L.set k ⟨⟨x.q.d, x.q.P, x.q.ms ++ [i]⟩, ⟨a', x.r.n + 1, c', []⟩⟩) (w2.setCell ⟨gsb, k * 22 + 21, none⟩ (.slice a' (x.r.n + 1) c')) ∧ Fr w (w2.setCell ⟨gsb, k * 22 + 21, none⟩ (.slice a' (x.r.n + 1) c')) (fun b => base ≤ b) ∧ w2.cell? ⟨gsb, k * 22 + 21, none⟩ = some x.r.val ∧ w2.frozen? ⟨gsb, k * 22 + 21, none⟩ = false := by
  have hxm := List.mem_of_getElem? hx
  have hkl := (List.getElem?_eq_some_iff.1 hx).1
  have F1 : Fr w w2 (fun j => j ∈ rowFoot x.r) := (fr_of_grown G1).chain (fr_own hg) (fun _ e => e.elim) (fun _ _ e => e)
  have hgR : gsb ∈ rowFoot R := (foot_of_a hR).2 rfl
  have hgl := own_lt M.own hgR
  have hgx : gsb ∉ rowFoot x.r := fun e => M.top x hxm gsb e hgR
  have hs1 := G1.size
  have hown2 : w2.ownsRow base 149 22 R.val R.n (L.flatMap MG.cells) := owns_fr M.own F1 (fun b hb e => M.top x hxm b e (mem_rowFoot.2 hb))
  have hRv : R.val = .slice (some ⟨gsb, 0, none⟩) R.n R.c := by unfold Row.val; rw [hR]
  have hfoot : ∀ b ∈ rowFoot (⟨a', x.r.n + 1, c', []⟩ : Row), b ∈ rowFoot x.r ∨ w.heap.size ≤ b := by
    exact fun b hb => (At'.foot (w := w1) (old := x.r) (new := ⟨a', x.r.n + 1, c', []⟩) hat b hb).imp (fun e => e) (fun e => Nat.le_trans hs1 e)
  have hst := hown2
  rw [hRv] at hst
  obtain ⟨s1, s2⟩ := hst.stored (k * 22 + 21) (.slice a' (x.r.n + 1) c')
  have F2 := fr_at s2
  have hl := fun y hy => MG.cells_length (M.len y hy)
  have hcells : MG.cells ⟨⟨x.q.d, x.q.P, x.q.ms ++ [i]⟩, ⟨a', x.r.n + 1, c', []⟩⟩ = x.cells.set 21 (.slice a' (x.r.n + 1) c') := by
    have hlen : (rcells x.q.d x.q.P).length = 21 := by rw [rcells_length, M.len x hxm]
    unfold MG.cells
    rw [List.set_append_right _ _ (by omega), hlen]
    rfl
  have hcell : w2.cell? ⟨gsb, k * 22 + 21, none⟩ = some x.r.val := by
    rw [hst.cellAt (k * 22 + 21) (by rw [M.n]; omega), flat_get hl hx (by decide)]
    exact MG.cell_mem (M.len x hxm)
  have mem' : ∀ (y : MG), y ∈ L.set k ⟨⟨x.q.d, x.q.P, x.q.ms ++ [i]⟩, ⟨a', x.r.n + 1, c', []⟩⟩ → y = ⟨⟨x.q.d, x.q.P, x.q.ms ++ [i]⟩, ⟨a', x.r.n + 1, c', []⟩⟩ ∨ ∃ j, j ≠ k ∧ L[j]? = some y := by
    intro y hy
    obtain ⟨j, hj⟩ := List.getElem?_of_mem hy
    rcases get_set' hj with ⟨_, e, _⟩ | ⟨hne, e⟩
    · exact .inl e
    · exact .inr ⟨j, hne, e⟩
  have hnew : gsb ∉ rowFoot (⟨a', x.r.n + 1, c', []⟩ : Row) := fun e => by
    rcases hfoot gsb e with e | e
    · exact hgx e
    · omega
  refine ⟨⟨?_, ?_, fun y hy => ?_, fun y hy => ?_, fun y hy => ?_, fun y hy b hb hbR => ?_, fun i1 i2 y z h1 h2 hne b hb hb2 => ?_⟩, F1.chain F2 (fun b hb => (own_lt (M.row x hxm) hb).1) (fun b _ e => by rw [e]; exact hgl.1), hcell, hst.frozenAt _⟩
  · rw [flat_set hl hx (by decide) hcells] at s1
    rw [hRv]
    exact s1
  · rw [List.length_set]; exact M.n
  · rcases mem' y hy with rfl | ⟨j, _, e⟩
    · exact M.len x hxm
    · exact M.len y (List.mem_of_getElem? e)
  · rcases mem' y hy with rfl | ⟨j, _, e⟩
    · show x.r.n + 1 = (x.q.ms ++ [i]).length
      rw [M.rn x hxm]; simp
    · exact M.rn y (List.mem_of_getElem? e)
  · rcases mem' y hy with rfl | ⟨j, hne, e⟩
    · have e1 : mems ⟨x.q.d, x.q.P, x.q.ms ++ [i]⟩ = mems x.q ++ [.int .i64 (i : Int)] := by simp [mems]
      rw [e1]
      exact owns_fr hown F2 (fun b hb e => hnew (by rw [← e]; exact mem_rowFoot.2 hb))
    · have hym := List.mem_of_getElem? e
      exact owns_fr (owns_fr (M.row y hym) F1 (fun b hb e' => M.two j k y x e hx hne b (mem_rowFoot.2 hb) e')) F2 (fun b hb e' => M.top y hym b (mem_rowFoot.2 hb) (by rw [e']; exact hgR))
  · have hbg := (foot_of_a hR).1 hbR
    subst hbg
    rcases mem' y hy with rfl | ⟨j, _, e⟩
    · exact hnew hb
    · exact M.top y (List.mem_of_getElem? e) _ hb hgR
  · rcases get_set' h1 with ⟨e1, rfl, _⟩ | ⟨n1, e1⟩
    · rcases get_set' h2 with ⟨e2, _, _⟩ | ⟨n2, e2⟩
      · omega
      · rcases hfoot b hb with e | e
        · exact M.two k i2 x z hx e2 (by omega) b e hb2
        · have := (own_lt (M.row z (List.mem_of_getElem? e2)) hb2).2; omega
    · rcases get_set' h2 with ⟨e2, rfl, _⟩ | ⟨n2, e2⟩
      · rcases hfoot b hb2 with e | e
        · exact M.two i1 k y x e1 hx (by omega) b hb e
        · have := (own_lt (M.row y (List.mem_of_getElem? e1)) hb).2; omega
      · exact M.two i1 i2 y z e1 e2 hne b hb hb2

/-- A group comes. -/
theorem MAt.push {base : Nat} {R : Row} {L : List MG} {w w1 w2 : World} {d : Nat} {P : List Int} {a' : Option Addr} {c' : Nat} (M : MAt base R L w) (hP : P.length = 20) (G1 : w.grownBy w1 none)
    (hown : w2.ownsRow base 149 22 (.slice a' (R.n + 1) c') (R.n + 1) (L.flatMap MG.cells ++ MG.cells ⟨⟨d, P, []⟩, nilRow⟩)) (hg : w1.grownBy w2 R.val.ownBlock) (hat : a' = R.a ∨ ∃ g, a' = some ⟨g, 0, none⟩ ∧ w1.heap.size ≤ g) :
    MAt base ⟨a', R.n + 1, c', []⟩ (L ++ [⟨⟨d, P, []⟩, nilRow⟩]) w2 ∧ Fr w w2 (fun b => base ≤ b) := by
  have F1 : Fr w w2 (fun j => j ∈ rowFoot R) := (fr_of_grown G1).chain (fr_own hg) (fun _ e => e.elim) (fun _ _ e => e)
  have hs1 := G1.size
  have hfoot : ∀ b ∈ rowFoot (⟨a', R.n + 1, c', []⟩ : Row), b ∈ rowFoot R ∨ w.heap.size ≤ b := by
    exact fun b hb => (At'.foot (w := w1) (old := R) (new := ⟨a', R.n + 1, c', []⟩) hat b hb).imp (fun e => e) (fun e => Nat.le_trans hs1 e)
  have mem' : ∀ (y : MG), y ∈ L ++ [⟨⟨d, P, []⟩, nilRow⟩] → y ∈ L ∨ y = ⟨⟨d, P, []⟩, nilRow⟩ := fun y hy => by
    rcases List.mem_append.1 hy with h | h
    · exact .inl h
    · exact .inr (List.mem_singleton.1 h)
  refine ⟨⟨?_, ?_, fun y hy => ?_, fun y hy => ?_, fun y hy => ?_, fun y hy b hb hbR => ?_, fun i1 i2 y z h1 h2 hne b hb hb2 => ?_⟩, F1.mono (fun b hb => (own_lt M.own hb).1)⟩
  · rw [List.flatMap_append, List.flatMap_cons, List.flatMap_nil, List.append_nil]
    exact hown
  · show R.n + 1 = _
    rw [M.n]; simp
  · rcases mem' y hy with h | rfl
    · exact M.len y h
    · exact hP
  · rcases mem' y hy with h | rfl
    · exact M.rn y h
    · rfl
  · rcases mem' y hy with h | rfl
    · exact owns_fr (M.row y h) F1 (fun b hb e => M.top y h b (mem_rowFoot.2 hb) e)
    · exact World.ownsRow_nil _ _ _ _
  · rcases mem' y hy with h | rfl
    · rcases hfoot b hbR with e | e
      · exact M.top y h b hb e
      · have := (own_lt (M.row y h) hb).2; omega
    · exact foot_nil hb
  · rcases get_push h1 with ⟨_, e1⟩ | ⟨_, rfl⟩
    · rcases get_push h2 with ⟨_, e2⟩ | ⟨_, rfl⟩
      · exact M.two i1 i2 y z e1 e2 hne b hb hb2
      · exact foot_nil hb2
    · exact foot_nil hb
end Go.Proofs.Ybulkeero
