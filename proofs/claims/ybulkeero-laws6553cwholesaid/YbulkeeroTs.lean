/- What tellSpares reads, and what it leaves. -/
import Derived.Test.YbulkeeroInv
namespace Go.Proofs.Ybulkeero
open Go.RowKit Go.Joins

theorem range_fr {w w' : World} {may : Nat → Prop} {b o : Nat} {l : List Value} (h : w.rangeAt b o l) (F : Fr w w' may) (hm : ¬ may b) : w'.rangeAt b o l := fun j v hj => F.cell (h j v hj) hm
theorem RecAt.fr {hb : Nat} {r : Rec} {w w' : World} {may : Nat → Prop} (h : RecAt hb r w) (F : Fr w w' may) (hm : ¬ may hb) (hv : ∀ x, r.va = some x → ¬ may x.block) : RecAt hb r w' := by
  refine ⟨⟨range_fr h.place.1 F hm, F.cell h.place.2.1 hm, F.cell h.place.2.2 hm⟩, F.cell h.value hm, F.cell h.seq hm, range_fr h.sig F hm, fun hl => ?_⟩
  obtain ⟨ad, had, hh⟩ := h.src hl
  exact ⟨ad, had, fun j u hj => F.cell (hh j u hj) (by rw [add_block']; exact hv ad had)⟩

/-- The store and the record. -/
structure TsAt (sb hb rb : Nat) (me : List Int) (reps : Nat) (r : Rec) (w : World) : Prop where
  iface : w.cell? ⟨sb, 0, none⟩ = some (rtv rb)
  mine : w.rangeAt sb 3 (by8 me)
  reps : w.cell? ⟨sb, 23, none⟩ = some (.int .i64 (reps : Int))
  rec' : RecAt hb r w

/-- They lie elsewhere than the router. -/
structure TsFit (B rb sb hb : Nat) (r : Rec) : Prop where
  sb : sb < B ∧ sb ≠ rb
  hb : hb < B ∧ hb ≠ rb
  va : ∀ x, r.va = some x → x.block < B ∧ x.block ≠ rb

theorem RtAt.notMay {B rb j : Nat} {idv : Value} {w : World} {s : Nat → Row} (h : RtAt B rb idv w s) (hj : j < B ∧ j ≠ rb) : ¬ (j = rb ∨ ∃ k, (s k).val.ownBlock = some j) := by
  rintro (e | ⟨k, e⟩)
  · exact hj.2 e
  · have := ((h.own k).lt _ e).1
    omega
theorem TsAt.moved {B rb sb hb reps : Nat} {idv : Value} {me : List Int} {r : Rec} {w w' : World} {s s' : Nat → Row} (h : TsAt sb hb rb me reps r w) (hR : RtAt B rb idv w s) (hf : TsFit B rb sb hb r) (M : Moved B rb idv w s w' s') : TsAt sb hb rb me reps r w' :=
  ⟨M.fr.cell h.iface (hR.notMay hf.sb), range_fr h.mine M.fr (hR.notMay hf.sb), M.fr.cell h.reps (hR.notMay hf.sb), h.rec'.fr M.fr (hR.notMay hf.hb) (fun x hx => hR.notMay (hf.va x hx))⟩

/-- The j-th id of a row of ids. -/
def idAt (flat : List Int) (j : Nat) : List Int := (flat.drop (j * 20)).take 20
/-- Whom the first k of the spares tell. -/
def told (flat me : List Int) (reps : Nat) : Nat → List (List Int)
  | 0 => []
  | k + 1 => if idAt flat (reps + k) = me then told flat me reps k else told flat me reps k ++ [idAt flat (reps + k)]

theorem told_length (flat me : List Int) (reps : Nat) : ∀ k, (told flat me reps k).length ≤ k
  | 0 => by simp [told]
  | k + 1 => by
    have := told_length flat me reps k
    unfold told
    split
    · omega
    · simp; omega
theorem idAt_length {flat : List Int} {m j : Nat} (h : flat.length = m * 20) (hj : j < m) : (idAt flat j).length = 20 := by
  unfold idAt
  rw [List.length_take, List.length_drop, h]
  omega
theorem idAt_take {flat : List Int} {n j : Nat} (hj : j < n) : idAt (flat.take (n * 20)) j = idAt flat j := by
  unfold idAt
  rw [List.drop_take, List.take_take]
  congr 1
  omega
theorem range_idAt {w : World} {b j : Nat} {flat : List Int} (h : w.rangeAt b 0 (by8 flat)) : w.rangeAt b (j * 20) (by8 (idAt flat j)) := fun i v hi => by
  have := h (j * 20 + i) v (by
    unfold by8 idAt at *
    rw [List.map_take, List.map_drop] at hi
    have hi' := (List.getElem?_eq_some_iff.1 hi).1
    rw [List.length_take] at hi'
    rw [List.getElem?_take_of_lt (by omega), List.getElem?_drop] at hi
    exact hi)
  rwa [Nat.zero_add] at this

/-- The copies that the router keeps of a request. -/
structure Copies (B : Nat) (l : List Int) (w : World) (s : Nat → Row) (ps : List (Option Addr × Nat)) : Prop where
  own : ∀ p ∈ ps, w.ownsRow B 5 1 (.slice p.1 l.length p.2) l.length (by8 l)
  apart : ∀ p ∈ ps, ∀ k b, (s k).val.ownBlock = some b → (Value.slice p.1 l.length p.2).ownBlock ≠ some b
theorem owns_fr {w w' : World} {base size n : Nat} {e : TypeId} {v : Value} {xs : List Value} {may : Nat → Prop} (h : w.ownsRow base e size v n xs) (F : Fr w w' may) (hm : ∀ b, v.ownBlock = some b → ¬ may b) : w'.ownsRow base e size v n xs := by
  have hlt := h.lt
  obtain ⟨h1, h2 | ⟨g, cap, cur, rfl, hb, hh, r⟩⟩ := h
  · exact ⟨h1, .inl h2⟩
  · refine ⟨h1, .inr ⟨g, cap, cur, rfl, hb, ?_, r⟩⟩
    rw [F.block g (hlt g rfl).2 (hm g rfl)]
    exact hh
/-- A row of bytes that no row of the router's touches lives on. -/
theorem own_moved {B rb base n c : Nat} {idv : Value} {w w' : World} {s s' : Nat → Row} {a : Option Addr} {xs : List Value} (h : w.ownsRow base 5 1 (.slice a n c) n xs) (hB : rb < base) (hap : ∀ k b, (s k).val.ownBlock = some b → (Value.slice a n c).ownBlock ≠ some b) (M : Moved B rb idv w s w' s') :
    w'.ownsRow base 5 1 (.slice a n c) n xs ∧ ∀ k b, (s' k).val.ownBlock = some b → (Value.slice a n c).ownBlock ≠ some b := by
  refine ⟨owns_fr h M.fr ?_, fun k b hk hb => ?_⟩
  · rintro b hb (rfl | ⟨k, hk⟩)
    · have := (h.lt _ hb).1; omega
    · exact hap k b hk hb
  · rcases M.from' k b hk with h1 | h1
    · exact hap k b h1 hb
    · have := (h.lt _ hb).2; omega
theorem Copies.moved {B rb : Nat} {idv : Value} {l : List Int} {w w' : World} {s s' : Nat → Row} {ps : List (Option Addr × Nat)} (h : Copies B l w s ps) (hB : rb < B) (M : Moved B rb idv w s w' s') : Copies B l w' s' ps :=
  ⟨fun p hp => (own_moved (h.own p hp) hB (h.apart p hp) M).1, fun p hp => (own_moved (h.own p hp) hB (h.apart p hp) M).2⟩

/-- What tellSpares has made when k of the spares are gone through. -/
structure TellTo (B rb : Nat) (idv : Value) (W : World) (S : Nat → Row) (r : Rec) (flat me : List Int) (reps k : Nat) (w : World) (s : Nat → Row) (ps : List (Option Addr × Nat)) : Prop where
  moved : Moved B rb idv W S w s
  x1 : (s 1).xs = by8 r.key
  n1 : (s 1).n = 1
  x2 : (s 2).xs = [Value.int .i64 ((reps : Int) + 2)]
  n2 : (s 2).n = 1
  x3 : (s 3).xs = by8 (told flat me reps k).flatten
  n3 : (s 3).n = (told flat me reps k).length
  x4 : (s 4).xs = by8 (told flat me reps k).flatten
  n4 : (s 4).n = (told flat me reps k).length
  x5 : (s 5).xs = ps.map (fun p => Value.slice p.1 r.later.length p.2)
  n5 : (s 5).n = ps.length
  len : ps.length = (told flat me reps k).length
  copies : Copies B r.later w s ps

/-- A later world, the rows the same. -/
theorem TellTo.later {B rb reps k : Nat} {idv : Value} {W w w' : World} {S s : Nat → Row} {r : Rec} {flat me : List Int} {ps : List (Option Addr × Nat)} (h : TellTo B rb idv W S r flat me reps k w s ps) (M : Moved B rb idv w s w' s) : TellTo B rb idv W S r flat me reps k w' s ps :=
  ⟨h.moved.trans M, h.x1, h.n1, h.x2, h.n2, h.x3, h.n3, h.x4, h.n4, h.x5, h.n5, h.len, h.copies.moved h.moved.rt.lt M⟩
/-- The id was the node itself. -/
theorem TellTo.skip {B rb reps k : Nat} {idv : Value} {W w : World} {S s : Nat → Row} {r : Rec} {flat me : List Int} {ps : List (Option Addr × Nat)} (h : TellTo B rb idv W S r flat me reps k w s ps) (e : idAt flat (reps + k) = me) : TellTo B rb idv W S r flat me reps (k + 1) w s ps := by
  have ht : told flat me reps (k + 1) = told flat me reps k := by simp [told, e]
  exact ⟨h.moved, h.x1, h.n1, h.x2, h.n2, by rw [ht]; exact h.x3, by rw [ht]; exact h.n3, by rw [ht]; exact h.x4, by rw [ht]; exact h.n4, h.x5, h.n5, by rw [ht]; exact h.len, h.copies⟩
/-- A spare was told: Contact, then Call. -/
theorem TellTo.tell {B rb reps k : Nat} {idv : Value} {W w w3 w4 : World} {S s s1 s2 : Nat → Row} {r : Rec} {flat me : List Int} {ps : List (Option Addr × Nat)} {a' : Option Addr} {c' : Nat} (h : TellTo B rb idv W S r flat me reps k w s ps) (ne : idAt flat (reps + k) ≠ me)
    (M1 : Moved B rb idv w s w3 s1) (x3 : (s1 3).xs = (s 3).xs ++ by8 (idAt flat (reps + k))) (n3 : (s1 3).n = (s 3).n + 1) (e3 : ∀ j, j ≠ 3 → s1 j = s j)
    (C : CallTo B rb idv w3 s1 (idAt flat (reps + k)) r.later w4 s2 a' c') : TellTo B rb idv W S r flat me reps (k + 1) w4 s2 (ps ++ [(a', c')]) := by
  have ht : told flat me reps (k + 1) = told flat me reps k ++ [idAt flat (reps + k)] := by simp [told, ne]
  have hrb := h.moved.rt.lt
  have hB := M1.rt.size
  have M : Moved B rb idv w s w4 s2 := M1.trans C.moved
  have hc := h.copies.moved hrb M
  refine ⟨h.moved.trans M, ?_, ?_, ?_, ?_, ?_, ?_, ?_, ?_, ?_, ?_, ?_, ⟨fun p hp => ?_, fun p hp => ?_⟩⟩
  · rw [C.rest 1 (by decide) (by decide), e3 1 (by decide)]; exact h.x1
  · rw [C.rest 1 (by decide) (by decide), e3 1 (by decide)]; exact h.n1
  · rw [C.rest 2 (by decide) (by decide), e3 2 (by decide)]; exact h.x2
  · rw [C.rest 2 (by decide) (by decide), e3 2 (by decide)]; exact h.n2
  · rw [C.rest 3 (by decide) (by decide), x3, h.x3, ht]; simp [by8]
  · rw [C.rest 3 (by decide) (by decide), n3, h.n3, ht]; simp
  · rw [C.x4, e3 4 (by decide), h.x4, ht]; simp [by8]
  · rw [C.n4, e3 4 (by decide), h.n4, ht]; simp
  · rw [C.x5, e3 5 (by decide), h.x5]; simp
  · rw [C.n5, e3 5 (by decide), h.n5]; simp
  · rw [List.length_append, h.len, ht]; simp
  · rcases List.mem_append.1 hp with hp | hp
    · exact hc.own p hp
    · rw [List.mem_singleton.1 hp]; exact owns_mono C.copy hB
  · rcases List.mem_append.1 hp with hp | hp
    · exact hc.apart p hp
    · rw [List.mem_singleton.1 hp]; exact C.apart
end Go.Proofs.Ybulkeero
