/- The law 6553A: her code's tails, and the state behind tellSpares. -/
import Derived.Test.YbulkeeroBuild2
namespace Go.Proofs.Ybulkeero
open Go.RowKit Go.Joins

def fstC : Code → Code
  | .seq x _ => x
  | c => c
def sndC : Code → Code
  | .seq _ y => y
  | c => c
def dropC : Nat → Code → Code
  | 0, c => c
  | n + 1, c => dropC n (sndC c)
/-- The law's code, its first n statements left out. -/
noncomputable def tailC (n : Nat) : Code := dropC n (Yba.f3.body.getD .ret)

/-- How the law ends. -/
def LawEnd (w : World) (e : Ending) (w' : World) : Prop := e = .returned (.bool true) ∧ Below w.heap.size w w'
def LawQ (w : World) : Exit → Act → World → Prop := bodyPost Yba.prog Yba.f3 (LawEnd w)

theorem Bytes.below {w w' : World} {a : Option Addr} {n : Nat} {l : List Int} (h : Bytes w a n l) (hB : Below w.heap.size w w') : Bytes w' a n l := by
  obtain ⟨hl, h0 | ⟨b, o, ha, hr⟩⟩ := h
  · exact ⟨hl, .inl h0⟩
  · refine ⟨hl, .inr ⟨b, o, ha, fun j v hj => ?_⟩⟩
    rw [hB.cell (p := ⟨b, o + j, none⟩) (block_lt_of_cell (hr j v hj))]
    exact hr j v hj
theorem range_grow {w w' : World} {b o : Nat} {l : List Value} (h : w.rangeAt b o l) (hB : Below w.heap.size w w') : w'.rangeAt b o l := fun j v hj => by
  rw [hB.cell (p := ⟨b, o + j, none⟩) (block_lt_of_cell (h j v hj))]
  exact h j v hj
theorem below_of_grown {w w' : World} (h : w.grownBy w' none) : Below w.heap.size w w' := ⟨h.os, h.tape, h.output, h.size, fun k hk => h.block k hk (by simp)⟩
theorem Bytes.src {w : World} {a : Option Addr} {n : Nat} {l : List Int} (h : Bytes w a n l) : Src w a (by8 l) := by
  intro hp
  rw [by8_length] at hp
  obtain ⟨hl, rfl | ⟨b, o, rfl, hr⟩⟩ := h
  · omega
  · exact ⟨_, rfl, fun j u hj => by rw [Addr.add_mid]; exact hr j u hj⟩

/-- The law's arguments and what she has made of them. -/
structure LP where
  w0 : World
  r : Rec
  flat : List Int
  me : List Int
  va : Option Addr
  vc : Nat
  m : Nat
  reps : Nat
  kb : Nat
  gb : Nat
  mb : Nat
  lb : Nat
  rb : Nat
  sb : Nat
  hb : Nat
  B : Nat

def LP.idv (p : LP) : Value := .slice (some ⟨p.lb, 0, none⟩) p.m p.m
def LP.n (p : LP) : Nat := min (p.reps + 2) p.m

structure LFit (p : LP) : Prop where
  rec' : RecFit p.r
  me : p.me.length = 20
  m : p.m ≤ 65536
  reps : p.reps ≤ 9
  flat : p.flat.length = p.m * 20

/-- Behind tellSpares, and in every later world. -/
structure LawAt (p : LP) (Wt : World) (w : World) (s : Nat → Row) (ps : List (Option Addr × Nat)) : Prop where
  tell : TellTo p.B p.rb p.idv Wt S0 p.r p.flat p.me p.reps (p.n - p.reps) w s ps
  ts : TsAt p.sb p.hb p.rb p.me p.reps p.r w
  list : w.rangeAt p.lb 0 (by8 p.flat)
  mine : w.rangeAt p.mb 0 (by8 p.me)
  keyb : w.rangeAt p.kb 0 (by8 p.r.key)
  sigb : w.rangeAt p.gb 0 (by8 p.r.sig)
  value : Bytes w p.va p.r.value.length p.r.value
  copy : Bytes w p.r.va p.r.value.length p.r.value
  below : Below p.w0.heap.size p.w0 w
  size : p.w0.heap.size ≤ w.heap.size

theorem TsAt.below {sb hb rb reps : Nat} {me : List Int} {r : Rec} {w w' : World} (h : TsAt sb hb rb me reps r w) (hB : Below w.heap.size w w') : TsAt sb hb rb me reps r w' :=
  ⟨by rw [hB.cell (p := ⟨sb, 0, none⟩) (block_lt_of_cell h.iface)]; exact h.iface, range_grow h.mine hB, by rw [hB.cell (p := ⟨sb, 23, none⟩) (block_lt_of_cell h.reps)]; exact h.reps, h.rec'.below hB (Nat.le_refl _)⟩
theorem LawAt.later {p : LP} {Wt w w' : World} {s : Nat → Row} {ps : List (Option Addr × Nat)} (h : LawAt p Wt w s ps) (hB : Below w.heap.size w w') : LawAt p Wt w' s ps :=
  ⟨h.tell.later (Moved.grown h.tell.moved.rt (grown_of_below hB)), h.ts.below hB, range_grow h.list hB, range_grow h.mine hB, range_grow h.keyb hB, range_grow h.sigb hB, h.value.below hB, h.copy.below hB, h.below.trans (hB.mono h.size), Nat.le_trans h.size hB.size⟩
end Go.Proofs.Ybulkeero
