/- The map of groups, keyed by reaches. -/
import Derived.Test.YbulkeeroZz2
namespace Go.Proofs.Ybulkeero
open Go.RowKit Go.Joins

theorem eq139 (w : World) (d e : Nat) (P Q : List Int) (hp : P.length = 20) (hq : Q.length = 20) : (Op.equalIn 10000 139 (rv d P) (rv e Q)).run Yba.prog w = .ok (decide (d = e ∧ P = Q)) w := by
  have h27 := eq_arr w 9997 27 20 Yba.underlying27 P Q hp hq
  have hd : (Op.equalIn 9999 3 (.int .i64 (d : Int)) (.int .i64 (e : Int))).run Yba.prog w = .ok ((d : Int) == (e : Int)) w := run_equalIn_int w 9998 3 .i64 .i64 _ _ Yba.underlying3
  have tp : (by8 P).take 20 = by8 P := List.take_of_length_le (by rw [by8_length]; omega)
  have tq : (by8 Q).take 20 = by8 Q := List.take_of_length_le (by rw [by8_length]; omega)
  unfold rv rcells
  by_cases h : d = e
  · subst h
    simp [go_sem, tp, tq, h27]
    by_cases h2 : P = Q <;> simp [h2]
  · have h3 : ((d : Int) == (e : Int)) = false := by simp; omega
    simp [go_sem, h, h3]

/-- A group, as the map knows it. -/
structure Gr where
  d : Nat
  P : List Int
  b : Nat
def Gr.ptr (g : Gr) : Value := .pointer (some ⟨g.b, 0, none⟩)
/-- The map's entries are these groups, in the order they came. -/
structure MapIs (es : List MapEntry) (gs : List Gr) : Prop where
  kv : es.map (fun e => (e.key, e.val)) = gs.map (fun g => (rv g.d g.P, g.ptr))
  len : ∀ g ∈ gs, g.P.length = 20
def hit (d : Nat) (P : List Int) (g : Gr) : Bool := decide (d = g.d ∧ P = g.P)

theorem findAsking139 (w : World) (d : Nat) (P : List Int) (hp : P.length = 20) : ∀ (es : List MapEntry) (gs : List Gr) (i : Nat), MapIs es gs →
    (Instr.findAsking 139 (rv d P) es i).run Yba.prog w = .ok ((gs.findIdx? (hit d P)).map fun j => (i + j, ((gs[j]?).map Gr.ptr).getD (.pointer none))) w
  | [], gs, i, h => by
    have : gs = [] := by have := h.kv; simp at this; exact this.symm ▸ rfl
    subst this
    simp [Instr.findAsking]
  | e :: es, gs, i, h => by
    match gs, h with
    | [], h => have := h.kv; simp at this
    | g :: gs, h =>
      have hkv := h.kv
      simp only [List.map_cons, List.cons.injEq, Prod.mk.injEq] at hkv
      obtain ⟨⟨h1, h2⟩, h3⟩ := hkv
      have hg := h.len g (by simp)
      have ih := findAsking139 w d P hp es gs (i + 1) ⟨h3, fun x hx => h.len x (by simp [hx])⟩
      have he : (Op.equal 139 (rv d P) e.key).run Yba.prog w = .ok (hit d P g) w := by rw [h1]; exact eq139 w d g.d P g.P hp hg
      simp only [Instr.findAsking, Sem.run_bind, he, Result.andThen_ok]
      rw [List.findIdx?_cons]
      cases hh : hit d P g with
      | true => simp [h2]
      | false =>
        simp only [Bool.false_eq_true, if_false]
        rw [ih]
        cases gs.findIdx? (hit d P) with
        | none => simp
        | some j => simp; omega
theorem findKey139 (w : World) (d : Nat) (P : List Int) (hp : P.length = 20) (es : List MapEntry) (gs : List Gr) (h : MapIs es gs) :
    (Instr.findKey 139 (rv d P) es).run Yba.prog w = .ok ((gs.findIdx? (hit d P)).map fun j => (j, ((gs[j]?).map Gr.ptr).getD (.pointer none))) w := by
  have ha := findAsking139 w d P hp es gs 0 h
  simp only [Nat.zero_add] at ha
  unfold Instr.findKey
  simp only [Sem.run_bind, run_underlying Yba.underlying139, Result.andThen_ok]
  cases es with
  | nil =>
    have : gs = [] := by have := h.kv; simp at this; exact this.symm ▸ rfl
    subst this
    simp [Instr.findNow]
  | cons e es => simpa [Instr.findNow, Instr.sameNow] using ha
end Go.Proofs.Ybulkeero
