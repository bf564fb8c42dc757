/- The law 6553C: what stands ready before a filing. -/
import Derived.Test.YbulkeeroCBuild
namespace Go.Proofs.Ybulkeero
open Go.RowKit Go.Joins

/-- The copy of the nodes is made. -/
structure RC (p : P5) (i : Nat) (foot : List Nat) (r : Row) (w : World) : Prop where
  c : w.cell? ⟨p.cb, i, none⟩ = some r.val
  rn : r.n = (p.st i).vs.length
  own : w.ownsRow p.B 23 1 r.val r.n (p.st i).vs
  rf : ∀ b ∈ rowFoot r, b ∉ foot
/-- The item is made. -/
structure RI (p : P5) (its : Nat → Nat) (cs : Nat → Row) (i : Nat) (foot : List Nat) (r : Row) (ib : Nat) (w : World) : Prop where
  hi : p.B ≤ ib
  no : ib ∉ foot
  ne : ∀ m, m < i → its m ≠ ib
  rfi : ∀ b ∈ rowFoot r, b ≠ ib
  cs : ∀ m, m < i → ∀ b ∈ rowFoot (cs m), b ≠ ib
  blk : w.heap[ib]? = some (.cells #[.pointer none, .int .i64 0] 137 (0, 0))
theorem RC.fr {p : P5} {i : Nat} {foot : List Nat} {r : Row} {w w' : World} {may : Nat → Prop} (h : RC p i foot r w) (F : Fr w w' may) (hc : ¬ may p.cb) (hm : ∀ b, p.B ≤ b → ¬ may b) : RC p i foot r w' :=
  ⟨F.cell h.c hc, h.rn, owns_fr h.own F (fun b hb => hm b (h.own.lt b hb).1), h.rf⟩
theorem RI.fr {p : P5} {its : Nat → Nat} {cs : Nat → Row} {i : Nat} {foot : List Nat} {r : Row} {ib : Nat} {w w' : World} {may : Nat → Prop} (h : RI p its cs i foot r ib w) (F : Fr w w' may) (hm : ∀ b, p.B ≤ b → ¬ may b) : RI p its cs i foot r ib w' :=
  ⟨h.hi, h.no, h.ne, h.rfi, h.cs, by rw [F.block ib (Array.getElem?_eq_some_iff.1 h.blk).1 (hm ib h.hi)]; exact h.blk⟩
theorem StpAt.fr {sb so : Nat} {s : Stp} {w w' : World} {may : Nat → Prop} (h : StpAt sb so s w) (F : Fr w w' may) (hm : ¬ may sb) : StpAt sb so s w' :=
  ⟨fun j v hj => F.cell (h.key j v hj) hm, fun j v hj => F.cell (h.far j v hj) hm, F.cell h.whole hm, F.cell h.aside hm, F.cell h.conf hm, F.cell h.count hm, F.cell h.nodes hm⟩
theorem nodesAt {p : P5} {its : Nat → Nat} {cs : Nat → Row} {i : Nat} {gs : List Grp} {cnt foot : List Nat} {w : World} (h : At2 p its cs i gs cnt foot w) (ok : Ok5 p) {m : Nat} (hm : m < p.n) : NodesAt p.B w (p.st m).na (p.st m).vs ∧ ∀ ad, (p.st m).na = some ad → 0 < (p.st m).vs.length → ad.block ≠ p.rb := by
  have sm := ok.each m hm
  have o1 := ok.rb
  have o2 := ok.xb
  have o3 := ok.qb
  have o4 := ok.cb
  have o5 := ok.B
  have hone : ∀ v ∈ (p.st m).vs, v.oneCell' = true := fun v hv => by
    obtain ⟨j, hj⟩ := List.getElem?_of_mem hv
    obtain ⟨k, rfl⟩ := sm.int j v hj
    rfl
  rcases sm.src with e | ⟨b, o, e, hb, _⟩
  · have hl : ¬ 0 < (p.st m).vs.length := by rw [e]; simp
    exact ⟨⟨fun hp => absurd hp hl, fun _ _ hp => absurd hp hl, hone⟩, fun _ _ hp => absurd hp hl⟩
  · refine ⟨⟨fun hp => ?_, fun ad he _ => ?_, hone⟩, fun ad he _ => ?_⟩
    · rcases h.nodes ok hm with e' | ⟨b', o', e', hr⟩
      · rw [e'] at hp; simp at hp
      · refine ⟨_, e', fun j u hj => ?_⟩
        rw [Go.WideShapes.add_plain]
        exact hr j u hj
    · rw [e] at he; cases he; show b < p.B; omega
    · rw [e] at he; cases he; show b ≠ p.rb; omega
theorem At2.big {p : P5} {its : Nat → Nat} {cs : Nat → Row} {i : Nat} {gs : List Grp} {cnt foot : List Nat} {w : World} (h : At2 p its cs i gs cnt foot w) (ok : Ok5 p) (hi : i ≤ p.n) : ∀ g ∈ gs, g.rooms.n ≤ 100000000 ∧ g.ents.n ≤ 100000000 := by
  intro g hg
  obtain ⟨k, hk⟩ := List.getElem?_of_mem hg
  have hkl := (List.getElem?_eq_some_iff.1 hk).1
  rw [h.rel.len] at hkl
  have hq : (pgs p.D p.P i)[k]? = some (pgs p.D p.P i)[k] := List.getElem?_eq_getElem hkl
  have T := h.rel.each k g _ hk hq
  have hm := (pgs_ms p.D p.P i k _ hq).1
  have hn := ok.n
  have hw := ok.wid
  have hmul := Nat.mul_le_mul (show (pgs p.D p.P i)[k].ms.length ≤ 4096 by omega) hw
  rw [T.en, T.rn]
  omega
theorem At2.dep {p : P5} {its : Nat → Nat} {cs : Nat → Row} {i : Nat} {gs : List Grp} {cnt foot : List Nat} {w : World} (h : At2 p its cs i gs cnt foot w) (ok : Ok5 p) (hi : i < p.n) : cnt[p.D i]? = some (cntD p.D (p.D i) i) := by
  have := ok.Dle hi
  rw [h.cnts, List.getElem?_map, List.getElem?_range (by omega)]
  rfl
end Go.Proofs.Ybulkeero
