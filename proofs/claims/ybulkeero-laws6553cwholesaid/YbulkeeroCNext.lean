/- The law 6553C: one more filing. -/
import Derived.Test.YbulkeeroD10
namespace Go.Proofs.Ybulkeero
open Go.RowKit Go.Joins

theorem cell_setCells_apart {w : World} {b o b' o' : Nat} {vs : List Value} {v : Value} (h : w.cell? ⟨b', o', none⟩ = some v) (hap : b' ≠ b ∨ o' + 1 ≤ o ∨ o + vs.length ≤ o') : (w.setCells b o vs).cell? ⟨b', o', none⟩ = some v := by
  have hr : w.rangeAt b' o' [v] := fun j u hj => by
    have hjl := (List.getElem?_eq_some_iff.1 hj).1
    obtain rfl : j = 0 := by simpa using hjl
    have : v = u := by simpa using hj
    rw [← this]
    exact h
  exact World.rangeAt_setCells_apart hr b o vs (by simpa using hap) 0 v rfl
theorem Idx.ge {B rb wid : Nat} {w : World} {gs : List Grp} {cnt foot : List Nat} (h : Idx B rb wid w gs cnt foot) : ∀ b ∈ foot, B ≤ b := by
  cases h with
  | some S h => exact h.ge
  | none h => intro b hb; cases hb
theorem idx_fr {B rb wid : Nat} {w w' : World} {gs : List Grp} {cnt foot : List Nat} {may : Nat → Prop} (h : Idx B rb wid w gs cnt foot) (F : Fr w w' may) (hr : ¬ may rb) (hm : ∀ b ∈ foot, ¬ may b) : Idx B rb wid w' gs cnt foot := by
  cases h with
  | some S h => exact .some S (h.fr F hr hm)
  | none h => exact .none ⟨h.lt, Nat.le_trans h.size F.size, by rw [F.block rb (Nat.lt_of_lt_of_le h.lt h.size) hr]; exact h.blk⟩
theorem below_fr {B : Nat} {a w w' : World} {may : Nat → Prop} (h : Below B a w) (F : Fr w w' may) (hB : B ≤ w.heap.size) (hm : ∀ b, may b → B ≤ b) : Below B a w' :=
  h.trans ⟨F.os, F.tape, F.output, F.size, fun k hk => F.block k (by omega) (fun e => by have := hm k e; omega)⟩

/-- Something new is written behind what the state speaks of. -/
theorem At2.keep {p : P5} {its : Nat → Nat} {cs : Nat → Row} {i : Nat} {gs : List Grp} {cnt foot : List Nat} {w w' : World} (h : At2 p its cs i gs cnt foot w) (ok : Ok5 p) (F : Fr w w' (fun b => b = p.xb ∨ b = p.qb ∨ b = p.cb))
    (qs : ∀ m, m < i → w'.rangeAt p.qb (m * 21) (rcells (p.D m) (p.P m))) (qt : w'.there p.qb 0 (p.n * 21)) (xs : ∀ m, m < i → w'.cell? ⟨p.xb, m, none⟩ = some (.pointer (some ⟨its m, 0, none⟩))) (xt : w'.there p.xb 0 p.n) (cc : ∀ m, m < i → w'.cell? ⟨p.cb, m, none⟩ = some (cs m).val) (ct : w'.there p.cb 0 p.n) : At2 p its cs i gs cnt foot w' := by
  have o1 := ok.rb
  have o2 := ok.xb
  have o3 := ok.qb
  have o4 := ok.cb
  have o5 := ok.B
  have o6 := h.size
  have hge := h.idx.ge
  have hB : ∀ b, p.B ≤ b → ¬ (b = p.xb ∨ b = p.qb ∨ b = p.cb) := fun b hb => by omega
  have hrb : ¬ (p.rb = p.xb ∨ p.rb = p.qb ∨ p.rb = p.cb) := by omega
  refine ⟨below_fr h.below F (by omega) (fun b hb => by omega), Nat.le_trans o6 F.size, idx_fr h.idx F hrb (fun b hb => hB b (hge b hb)), fun e => ?_, fun e => ?_, fun b hb => Nat.lt_of_lt_of_le (h.flt b hb) F.size, qs, qt, xs, xt, cc, ct, h.cn, fun m hm => owns_fr (h.co m hm) F (fun b hb => hB b ((h.co m hm).lt b hb).1), h.cf, fun m hm => ⟨(h.il m hm).1, (h.il m hm).2.1, Nat.lt_of_lt_of_le (h.il m hm).2.2 F.size⟩, fun k g q hg hq pos m hm => ?_, h.rel, h.cnts⟩
  · have z := h.zero e
    exact ⟨z.lt, Nat.le_trans z.size F.size, by rw [F.block p.rb (by omega) hrb]; exact z.blk⟩
  · obtain ⟨S, A, h1, h2⟩ := h.full e
    exact ⟨S, A.fr F hrb (fun b hb => hB b (A.ge b hb)), h1, h2⟩
  · have hl : m < i := (pgs_ms p.D p.P i k q hq).2 m (List.mem_of_getElem? hm)
    rw [F.block (its m) (h.il m hl).2.2 (hB _ (h.il m hl).1)]
    exact h.ifl k g q hg hq pos m hm
theorem cnt_next (D : Nat → Nat) (i : Nat) : ((List.range 161).map (fun d => cntD D d i)).set (D i) (cntD D (D i) i + 1) = (List.range 161).map (fun d => cntD D d (i + 1)) := by
  apply List.ext_getElem (by simp)
  intro d h1 h2
  simp at h1 h2
  rw [List.getElem_set]
  simp only [List.getElem_map, List.getElem_range]
  by_cases e : D i = d
  · subst e
    simp [cntD]
  · simp [cntD, e]

/-- What stands ready when file is called. -/
structure Ready (p : P5) (its : Nat → Nat) (i : Nat) (foot : List Nat) (r : Row) (ib : Nat) (w : World) : Prop where
  q : w.rangeAt p.qb (i * 21) (rcells (p.D i) (p.P i))
  x : w.cell? ⟨p.xb, i, none⟩ = some (.pointer (some ⟨ib, 0, none⟩))
  c : w.cell? ⟨p.cb, i, none⟩ = some r.val
  rn : r.n = (p.st i).vs.length
  own : w.ownsRow p.B 23 1 r.val r.n (p.st i).vs
  rf : ∀ b ∈ rowFoot r, b ∉ foot ∧ b ≠ ib
  hi : p.B ≤ ib
  lt : ib < w.heap.size
  no : ib ∉ foot
  ne : ∀ m, m < i → its m ≠ ib

def upN {α : Type} (f : Nat → α) (i : Nat) (v : α) : Nat → α := fun m => if m = i then v else f m
theorem upN_same {α : Type} (f : Nat → α) (i : Nat) (v : α) : upN f i v i = v := by simp [upN]
theorem upN_other {α : Type} (f : Nat → α) {i m : Nat} (v : α) (h : m < i) : upN f i v m = f m := by simp [upN]; omega

theorem At2.next {p : P5} {its : Nat → Nat} {cs : Nat → Row} {i : Nat} {gs : List Grp} {cnt foot : List Nat} {w w' : World} {r : Row} {ib k : Nat} {S' : FS} {g g' : Grp} (h : At2 p its cs i gs cnt foot w) (ok : Ok5 p) (hin : i < p.n) (Y : Ready p its i foot r ib w) (hcs : ∀ m, m < i → ∀ b ∈ rowFoot (cs m), b ≠ ib)
    (T : FileIn p.B p.rb p.wid w gs cnt foot (p.D i) (cntD p.D (p.D i) i) (p.P i) (entE (p.st i).key (p.st i).far (p.st i).count (p.st i).whole (p.st i).aside (p.st i).conf ib) (p.st i).vs ib w' S' k g g') : At2 p (upN its i ib) (upN cs i r) (i + 1) S'.gs S'.cnt S'.foot w' := by
  have o1 := ok.rb
  have o2 := ok.xb
  have o3 := ok.qb
  have o4 := ok.cb
  have o5 := ok.B
  have o6 := h.size
  have hge := h.idx.ge
  have F := T.fr
  have hib := Y.hi
  have hlow : ∀ b, b < p.B → b ≠ p.rb → ¬ (b ∈ foot ∨ b = ib ∨ b = p.rb) := fun b h1 h2 e => by
    rcases e with e | e | e
    · have := hge b e; omega
    · omega
    · exact h2 e
  have hhi : ∀ b, p.B ≤ b → b ∉ foot → b ≠ ib → ¬ (b ∈ foot ∨ b = ib ∨ b = p.rb) := fun b h1 h2 h3 e => by
    rcases e with e | e | e
    · exact h2 e
    · exact h3 e
    · omega
  have hq := hlow p.qb (by omega) (by omega)
  have hx := hlow p.xb (by omega) (by omega)
  have hc := hlow p.cb (by omega) (by omega)
  have hft : ∀ b, b < w.heap.size → b ∉ foot → b ∉ S'.foot := fun b h1 h2 e => by
    rcases T.ft b e with e | e
    · exact h2 e
    · omega
  have hcases : ∀ m, m < i + 1 → m < i ∨ m = i := fun m hm => by omega
  have hE : ∀ m, m < i → p.E (upN its i ib) m = p.E its m := fun m hm => by unfold P5.E; rw [upN_other its ib hm]
  have hEi : p.E (upN its i ib) i = entE (p.st i).key (p.st i).far (p.st i).count (p.st i).whole (p.st i).aside (p.st i).conf ib := by unfold P5.E; rw [upN_same]
  obtain ⟨r1, r2, r3, r4, r5⟩ := (h.rel.congr hE).step (gs' := S'.gs) (k := k) (g := g) (g' := g') T.was T.gr T.en (by rw [hEi]; exact T.ex) T.rn T.rx
  have hgb : g'.b = g.b := congrArg Gr.b T.gr
  refine ⟨below_fr h.below F (by omega) (fun b e => ?_), Nat.le_trans o6 F.size, .some S' T.at', fun e => by omega, fun _ => ⟨S', T.at', rfl, rfl⟩, T.at'.lt_foot, fun m hm => ?_, there_fr h.qt F hq (by omega), fun m hm => ?_, there_fr h.xt F hx (by omega), fun m hm => ?_, there_fr h.ct F hc (by omega), fun m hm => ?_, fun m hm => ?_, fun m hm => ?_, fun m hm => ?_, fun k2 g2 q2 hg2 hq2 pos m hm => ?_, r1, ?_⟩
  · rcases e with e | e | e
    · have := hge b e; omega
    · omega
    · omega
  · rcases hcases m hm with hm | rfl
    · exact fun j v hj => F.cell (h.qs m hm j v hj) hq
    · exact fun j v hj => F.cell (Y.q j v hj) hq
  · rcases hcases m hm with hm | rfl
    · rw [upN_other its ib hm]; exact F.cell (h.xs m hm) hx
    · rw [upN_same]; exact F.cell Y.x hx
  · rcases hcases m hm with hm | rfl
    · rw [upN_other cs r hm]; exact F.cell (h.cc m hm) hc
    · rw [upN_same]; exact F.cell Y.c hc
  · rcases hcases m hm with hm | rfl
    · rw [upN_other cs r hm]; exact h.cn m hm
    · rw [upN_same]; exact Y.rn
  · rcases hcases m hm with hm | rfl
    · rw [upN_other cs r hm]
      exact owns_fr (h.co m hm) F (fun b hb => hhi b ((h.co m hm).lt b hb).1 (h.cf m hm b (mem_rowFoot.2 hb)) (hcs m hm b (mem_rowFoot.2 hb)))
    · rw [upN_same]
      exact owns_fr Y.own F (fun b hb => hhi b (Y.own.lt b hb).1 (Y.rf b (mem_rowFoot.2 hb)).1 (Y.rf b (mem_rowFoot.2 hb)).2)
  · rcases hcases m hm with hm | rfl
    · rw [upN_other cs r hm]
      exact fun b hb => hft b (own_lt (h.co m hm) hb).2 (h.cf m hm b hb)
    · rw [upN_same]
      exact fun b hb => hft b (own_lt Y.own hb).2 (Y.rf b hb).1
  · rcases hcases m hm with hm | rfl
    · rw [upN_other its ib hm]
      have := h.il m hm
      exact ⟨this.1, hft _ this.2.2 this.2.1, Nat.lt_of_lt_of_le this.2.2 F.size⟩
    · rw [upN_same]
      exact ⟨Y.hi, hft _ Y.lt Y.no, Nat.lt_of_lt_of_le Y.lt F.size⟩
  · have old : ∀ m, m < i → w'.heap[its m]? = w.heap[its m]? := fun m hm => by
      have := h.il m hm
      exact F.block _ this.2.2 (hhi _ this.1 this.2.1 (Y.ne m hm))
    by_cases e : k2 = k
    · subst e
      rw [r2] at hq2
      rw [r3] at hg2
      cases hq2
      cases hg2
      rcases get_push hm with ⟨hl, hm⟩ | ⟨rfl, rfl⟩
      · have hmi : ∃ q, (pgs p.D p.P i)[k2]? = some q ∧ q.ms[pos]? = some m := by
          unfold msAt at hm
          cases hq : (pgs p.D p.P i)[k2]? with
          | none => rw [hq] at hm; simp at hm
          | some q => rw [hq] at hm; exact ⟨q, rfl, by simpa using hm⟩
        obtain ⟨q, hq, hqm⟩ := hmi
        have hmlt := (pgs_ms p.D p.P i k2 q hq).2 m (List.mem_of_getElem? hqm)
        have hgk : gs[k2]? = some g := by
          rcases T.was with ⟨_, h2, _⟩ | ⟨_, h2, _⟩
          · exact h2
          · have := (List.getElem?_eq_some_iff.1 hq).1
            rw [← h.rel.len] at this
            omega
        rw [upN_other its ib hmlt, old m hmlt, hgb]
        exact h.ifl k2 g q hgk hq pos m hqm
      · rw [upN_same, T.item, hgb, r4]
    · obtain ⟨e1, e2⟩ := r5 k2 e
      rw [e1] at hg2
      rw [e2] at hq2
      have hmlt := (pgs_ms p.D p.P i k2 q2 hq2).2 m (List.mem_of_getElem? hm)
      rw [upN_other its ib hmlt, old m hmlt]
      exact h.ifl k2 g2 q2 hg2 hq2 pos m hm
  · rw [T.cnt, h.cnts]
    exact cnt_next p.D i
end Go.Proofs.Ybulkeero
