/- laterRequest (function 22). -/
import Derived.Test.YbulkeeroPlace2
namespace Go.Proofs.Ybulkeero
open Go.RowKit Go.Joins

/-- The record that a held block bears. -/
structure Rec where
  key : List Int
  kind : Int
  id : Int
  va : Option Addr
  vc : Nat
  value : List Int
  seq : Int
  sig : List Int

/-- The record lies in block hb. -/
structure RecAt (hb : Nat) (r : Rec) (w : World) : Prop where
  place : PlaceAt hb r.key r.kind r.id w
  value : w.cell? ⟨hb, 24, none⟩ = some (.slice r.va r.value.length r.vc)
  seq : w.cell? ⟨hb, 25, none⟩ = some (.int .u32 r.seq)
  sig : w.rangeAt hb 58 (by8 r.sig)
  src : Src w r.va (by8 r.value)

/-- Its numbers fit. -/
structure RecFit (r : Rec) : Prop where
  key : r.key.length = 20
  sig : r.sig.length = 64
  k0 : 0 ≤ r.kind
  k1 : r.kind ≤ 4294967295
  i0 : 0 ≤ r.id
  i1 : r.id ≤ 4294967295
  s0 : 0 ≤ r.seq
  s1 : r.seq ≤ 4294967295
  len : r.value.length ≤ 1048576

/-- The later request's bytes. -/
def Rec.later (r : Rec) : List Int := [7] ++ r.key ++ be r.kind ++ be r.id ++ be r.seq ++ r.sig ++ r.value
theorem Rec.later_length {r : Rec} (h : RecFit r) : r.later.length = 97 + r.value.length := by
  unfold Rec.later be
  simp [h.key, h.sig]
  omega

theorem RecAt.below {hb B : Nat} {r : Rec} {w w' : World} (h : RecAt hb r w) (hB : Below B w w') (hlt : w.heap.size ≤ B) : RecAt hb r w' := by
  have hb' : hb < B := Nat.lt_of_lt_of_le (block_lt_of_cell h.value) hlt
  refine ⟨h.place.below hB hb', ?_, ?_, range_below h.sig hB hb', ?_⟩
  · rw [hB.cell (p := ⟨hb, 24, none⟩) hb']; exact h.value
  · rw [hB.cell (p := ⟨hb, 25, none⟩) hb']; exact h.seq
  · intro hl
    obtain ⟨ad, had, hh⟩ := h.src hl
    refine ⟨ad, had, fun j u hj => ?_⟩
    rw [hB.cell (Nat.lt_of_lt_of_le (block_lt_of_cell (hh j u hj)) hlt)]
    exact hh j u hj
theorem RecAt.sigSrc {hb : Nat} {r : Rec} {w : World} (h : RecAt hb r w) : Src w (some ⟨hb, 58, none⟩) (by8 r.sig) := fun _ => ⟨_, rfl, fun j u hj => by rw [Addr.add_mid]; exact h.sig j u hj⟩

/-- What laterRequest leaves. -/
def LaterTo (w : World) (r : Rec) (e : Ending) (w' : World) : Prop := ∃ a' cap', e = .returned (.slice a' r.later.length cap') ∧ w'.ownsRow w.heap.size 5 1 (.slice a' r.later.length cap') r.later.length (by8 r.later) ∧ w.grownBy w' none

theorem make5 (w : World) (c : Nat) (hc : c ≤ 2000000) : ∃ w', (Instr.makeSlice 25 (.int .i64 0) (.int .i64 (c : Int))).run Yba.prog w = .ok (.slice (some ⟨w.heap.size, 0, none⟩) 0 c) w' ∧
      w'.ownsRow w.heap.size 5 1 (.slice (some ⟨w.heap.size, 0, none⟩) 0 c) 0 [] ∧ w.grownBy w' none := by
  obtain ⟨i, z, hi, hz, hs, hb, -⟩ := info_some Yba.row5
  exact run_make_own w w.heap.size 25 5 i z 1 Yba.underlying25 hi hz hs .i64 .i64 c (by rw [hb]; omega) (by unfold maxLen; omega) (Nat.le_refl _)

/-- A row of bytes of our own, all that was there left as it was. -/
structure OwnIn (W : World) (w : World) (a : Option Addr) (n c : Nat) (xs : List Value) : Prop where
  own : w.ownsRow W.heap.size 5 1 (.slice a n c) n xs
  below : Below W.heap.size W w
  size : W.heap.size ≤ w.heap.size
theorem OwnIn.alloc {W w : World} {a : Option Addr} {n c : Nat} {xs : List Value} (h : OwnIn W w a n c xs) (o : Obj) : OwnIn W (w.alloc o) a n c xs := ⟨h.own.alloc o, h.below.alloc h.size o, by simp; have := h.size; omega⟩
theorem OwnIn.drew {W w : World} {a : Option Addr} {n c : Nat} {xs : List Value} (h : OwnIn W w a n c xs) : OwnIn W w.drew a n c xs := ⟨h.own.drew, h.below.drew, h.size⟩
theorem OwnIn.next {W w w' : World} {a a' : Option Addr} {n c n' c' : Nat} {xs ys : List Value} (h : OwnIn W w a n c xs) (hown : w'.ownsRow W.heap.size 5 1 (.slice a' n' c') n' ys) (hg : w.grownBy w' (Value.slice a n c).ownBlock) : OwnIn W w' a' n' c' ys :=
  ⟨hown, h.below.grown hg h.size (fun k hk => (h.own.lt k hk).1), Nat.le_trans h.size hg.size⟩
theorem OwnIn.grown {W w w' : World} {a : Option Addr} {n c : Nat} {xs : List Value} (h : OwnIn W w a n c xs) (hg : w.grownBy w' none) : OwnIn W w' a n c xs :=
  ⟨h.own.kept hg (by cases hh : (Value.slice a n c).ownBlock with | none => exact .inl rfl | some k => exact .inr (by simp)), h.below.grown hg h.size (fun k hk => by cases hk), Nat.le_trans h.size hg.size⟩

theorem later_done {w w7 : World} {r : Rec} {a7 : Option Addr} {c7 : Nat} (hf : RecFit r) (h : OwnIn w w7 a7 (97 + r.value.length) c7 ([] ++ by8 [7] ++ by8 (r.key ++ be r.kind ++ be r.id) ++ by8 (be r.seq) ++ by8 r.sig ++ by8 r.value)) :
    LaterTo w r (.returned (.slice a7 (97 + r.value.length) c7)) w7 := by
  have e : [] ++ by8 [7] ++ by8 (r.key ++ be r.kind ++ be r.id) ++ by8 (be r.seq) ++ by8 r.sig ++ by8 r.value = by8 r.later := by
    unfold Rec.later
    simp only [by8, List.map_append, List.nil_append, List.append_assoc]
  refine ⟨a7, c7, by rw [Rec.later_length hf], ?_, grown_of_below h.below⟩
  rw [Rec.later_length hf, ← e]
  exact h.own

set_option maxHeartbeats 1000000 in
set_option maxRecDepth 20000 in
theorem later_any (hb : Nat) (r : Rec) (w : World) (h : RecAt hb r w) (hf : RecFit r) :
    Calls Yba.prog 22 #[.pointer (some ⟨hb, 2, none⟩)] w (LaterTo w r) := by
  have HR := hid h
  have hlt : hb < w.heap.size := block_lt_of_cell h.value
  have hval := h.value
  have HF := hid hf
  have hlen := hf.len
  clear h hf
  obtain ⟨w1, hmk, hown1, hg1⟩ := make5 w (97 + r.value.length) (by omega)
  rw [show ((97 + r.value.length : Nat) : Int) = 97 + (r.value.length : Int) by omega] at hmk
  have H1 : Hid (OwnIn w w1 (some ⟨w.heap.size, 0, none⟩) 0 (97 + r.value.length) []) := ⟨hown1, (Below.refl _ w).grown hg1 (Nat.le_refl _) (fun k hk => by cases hk), hg1.size⟩
  clear hown1 hg1
  go_enter Yba.func22, Yba.ntmps22
  go_wp2_with (first
    | (go_at_call 32; refine (place_any hb r.key r.kind r.id _ HF.out.key (HR.out.below H2.out.below (Nat.le_refl _)).place (by have := H2.out.size; omega)).mono ?_; rintro e w3 ⟨rfl, hg3⟩; have H3 := hid (H2.out.grown hg3); clear hg3 H2)
    | (go_at_call 31; refine (appendPlace_any w.heap.size _ _ _ _ r.key r.kind r.id _ HF.out.key HF.out.k0 HF.out.k1 HF.out.i0 HF.out.i1 H3.out.own H3.out.size (by omega)).mono ?_; rintro e w4 ⟨a4, c4, rfl, hown4, hg4, -⟩; have H4 := hid (H3.out.next hown4 hg4); clear hown4 hg4 H3)
    | (at_builtin; refine wpList_append_full rfl (.tmp 11) (.tmp 12) 25 rfl w.heap.size 5 1 1 Yba.underlying25 Yba.row5 (by decide) (some ⟨w.heap.size, 0, none⟩) 0 (97 + r.value.length) [] rfl (by exact H1.out.own.alloc _) (some ⟨w1.heap.size, 0, none⟩) 1 1 (by8 [7]) rfl rfl (by exact src_new w1 _ 5 _ rfl) (by8_one _) (by unfold maxLen; omega) (by omega) (by have := H1.out.size; simp; omega) ?_; intro a2 c2 w2 hown2 hg2 hat2; have H2 := hid ((H1.out.alloc _).next hown2 hg2); clear hown2 hg2 hat2 H1))
  go_region_held2 (fun w' : World => w'.cell? ⟨hb, 25, none⟩ = some (.int .u32 r.seq)) (first | exact (HR.out.below H5.out.below (Nat.le_refl _)).seq | exact (HR.out.below H4.out.drew.below (Nat.le_refl _)).seq) (first
    | (go_at_call 33; refine (au32_any w.heap.size _ _ _ _ r.seq _ HF.out.s0 HF.out.s1 H4.out.drew.own H4.out.drew.size (by omega)).mono ?_; rintro e w5 ⟨a5, c5, rfl, hown5, hg5, -⟩; have H5 := hid (H4.out.drew.next hown5 hg5); clear hown5 hg5))
  clear H4
  have hval5 := (HR.out.below H5.out.below (Nat.le_refl _)).value
  go_wp2_with (first
    | (at_builtin; refine wpList_append_full rfl (.tmp 24) (.tmp 28) 25 rfl w.heap.size 5 1 1 Yba.underlying25 Yba.row5 (by decide) _ _ _ _ rfl (by exact H5.out.own) (some ⟨hb, 58, none⟩) 64 64 (by8 r.sig) rfl (by rw [by8_length, HF.out.sig]) (by exact (HR.out.below H5.out.below (Nat.le_refl _)).sigSrc) (by8_one _) (by unfold maxLen; omega) (by omega) (by exact H5.out.size) ?_; intro a6 c6 w6 hown6 hg6 hat6; have H6 := hid (H5.out.next hown6 hg6); have hval6 := (HR.out.below H6.out.below (Nat.le_refl _)).value; clear hown6 hg6 hat6 H5 hval5)
    | (at_builtin; refine wpList_append_full rfl (.tmp 30) (.tmp 34) 25 rfl w.heap.size 5 1 1 Yba.underlying25 Yba.row5 (by decide) _ _ _ _ rfl (by exact H6.out.own) r.va r.value.length r.vc (by8 r.value) rfl (by rw [by8_length, Nat.mul_one]) (by exact (HR.out.below H6.out.below (Nat.le_refl _)).src) (by8_one _) (by unfold maxLen; omega) (by omega) (by exact H6.out.size) ?_; intro a7 c7 w7 hown7 hg7 hat7; have H7 := hid (H6.out.next hown7 hg7); clear hown7 hg7 hat7 H6 hval6))
  go_ret
  exact later_done HF.out H7.out
end Go.Proofs.Ybulkeero
