/- apply: a script of steps. -/
import Derived.Test.YbulkeesqEnd
import Derived.Lib.ConvBytes
namespace Go.Proofs.Ybulkeesq
open Go.RowKit Go.Joins

/-- A script, in memory. -/
structure Script (w : World) (B : Nat) (oa : Option Addr) (n : Nat) (x a : Nat → Int) (t : Nat → ByteArray) : Prop where
  loc : 0 < n → ∃ b o, oa = some ⟨b, o, none⟩ ∧ b < B ∧ ∀ k, k < n → w.cell? ⟨b, o + k * 3, none⟩ = some (.int .u8 (x k)) ∧ w.cell? ⟨b, o + k * 3 + 1, none⟩ = some (.int .i64 (a k)) ∧ w.cell? ⟨b, o + k * 3 + 2, none⟩ = some (.string (t k))
  u8 : ∀ k, k < n → 0 ≤ x k ∧ x k ≤ 255
theorem Script.below {w w' : World} {B bb : Nat} {oa : Option Addr} {n : Nat} {x a : Nat → Int} {t : Nat → ByteArray} (h : Script w B oa n x a t) (hb : Below bb w w') (hB : B ≤ bb) : Script w' B oa n x a t := by
  refine ⟨fun hn => ?_, h.u8⟩
  obtain ⟨b, o, h1, h2, h3⟩ := h.loc hn
  refine ⟨b, o, h1, h2, fun k hk => ?_⟩
  have e : ∀ i, w'.cell? ⟨b, i, none⟩ = w.cell? ⟨b, i, none⟩ := fun i => hb.cell (p := ⟨b, i, none⟩) (by show b < bb; omega)
  rw [e, e, e]
  exact h3 k hk

/-- How many bytes the first strings of a script have. -/
def tot (f : Nat → ByteArray) : Nat → Nat
  | 0 => 0
  | n + 1 => tot f n + (f n).size
theorem tot_le (f : Nat → ByteArray) {k n : Nat} (h : k ≤ n) : tot f k ≤ tot f n := by
  induction n with
  | zero => rw [Nat.le_zero.1 h]; exact Nat.le_refl _
  | succ n ih =>
    rcases Nat.lt_or_ge n k with h1 | h1
    · rw [Nat.le_antisymm h h1]; exact Nat.le_refl _
    · exact Nat.le_trans (ih h1) (Nat.le_add_right _ _)

/-- What some steps of a script may do to a Builder. -/
structure Grows (N L : Nat) (s s' : St) : Prop where
  mv : s'.mv = s.mv
  m0 : s'.m0 = s.m0
  m1 : s'.m1 = s.m1
  m2 : s'.m2 = s.m2
  m3 : s'.m3 = s.m3
  m4 : s'.m4 = s.m4
  m5 : s'.m5 = s.m5
  m6 : s'.m6 = s.m6
  m7 : s'.m7 = s.m7
  m8 : s'.m8 = s.m8
  cv : s.cv ≤ s'.cv
  co : s.co ≤ s'.co
  ci : s.ci ≤ s'.ci
  cd : s.cd ≤ s'.cd
  cx : s.cx ≤ s'.cx
  sum : s'.sum ≤ s.sum + N
  nx : s'.nx ≤ s.nx + L
  tk : s'.tk ≤ s.tk + N
  t0 : 0 ≤ s.tk → 0 ≤ s'.tk
theorem Grows.refl (s : St) : Grows 0 0 s s := ⟨rfl, rfl, rfl, rfl, rfl, rfl, rfl, rfl, rfl, rfl, Nat.le_refl _, Nat.le_refl _, Nat.le_refl _, Nat.le_refl _, Nat.le_refl _, Nat.le_refl _, Nat.le_refl _, by omega, fun h => h⟩
theorem Grows.step {N L l L' : Nat} {s s1 s2 : St} (h : Grows N L s s1) (k : Grow l s1 s2) (hl : L + l ≤ L') : Grows (N + 1) L' s s2 :=
  ⟨k.mv.trans h.mv, k.m0.trans h.m0, k.m1.trans h.m1, k.m2.trans h.m2, k.m3.trans h.m3, k.m4.trans h.m4, k.m5.trans h.m5, k.m6.trans h.m6, k.m7.trans h.m7, k.m8.trans h.m8, Nat.le_trans h.cv k.cv, Nat.le_trans h.co k.co, Nat.le_trans h.ci k.ci, Nat.le_trans h.cd k.cd, Nat.le_trans h.cx k.cx, by have := h.sum; have := k.sum; omega, by have := h.nx; have := k.nx; omega, by have := h.tk; have := k.tk; omega, fun q => k.t0 (h.t0 q)⟩

theorem Inv.grown {bb : Nat} {w w' : World} {s : St} (h : Inv bb w s) (hg : w.grownBy w' none) : Inv bb w' s :=
  ⟨by rw [hg.block bb h.lt (by simp)]; exact h.blk, h.rows.v.grown hg (fun _ _ => by simp), owns_grown h.rows.o hg (fun _ _ => by simp), h.rows.i.grown hg (fun _ _ => by simp), h.rows.d.grown hg (fun _ _ => by simp), h.rows.x.grown hg (fun _ _ => by simp), h.rows.vi, h.rows.vd, h.rows.id, h.rows.le, h.rows.up⟩
theorem grown_bytes (w : World) (e : TypeId) (s : ByteArray) : w.grownBy (Lib.bytesWorld w e s) none :=
  ⟨rfl, rfl, rfl, by rw [Lib.bytesWorld_size]; omega, fun k hk _ => Lib.bytesWorld_at_old w e s k hk⟩
theorem src_bytes (w : World) (s : ByteArray) (g : Nat) (hg : g = w.heap.size) : Src (Lib.bytesWorld w 5 s) 5 1 (some ⟨g, 0, none⟩) s.size := by
  intro _
  subst hg
  refine ⟨⟨w.heap.size, 0, none⟩, s.data.toList.map fun b => .int .u8 b.toNat, rfl, by simp, fun j u hj => ?_, fun u hu => ?_, rfl⟩
  · rw [Go.WideShapes.add_plain, Nat.zero_add]
    have hlt : j < s.size := by have := (List.getElem?_eq_some_iff.1 hj).1; simpa using this
    rw [Lib.bytesWorld_cell w 5 s j hlt, ← hj]
    have hlt2 : j < s.data.size := hlt
    simp [List.getD, Array.getElem?_eq_getElem hlt2]
  · obtain ⟨b, _, rfl⟩ := List.mem_map.1 hu
    rfl
/-- What a script leaves. -/
def ApplyPost (bb N L : Nat) (s : St) (w : World) (e : Ending) (w' : World) : Prop := e = .returned (.tuple #[]) ∧ ∃ s', Inv bb w' s' ∧ Below bb w w' ∧ Grows N L s s' ∧ s'.old = []

set_option maxHeartbeats 4000000 in
theorem apply_any (bb : Nat) (s : St) (w : World) (h : Inv bb w s) (B : Nat) (hB : B ≤ bb) (oa : Option Addr) (n c : Nat) (x a : Nat → Int) (t : Nat → ByteArray) (hsc : Script w B oa n x a t)
    (hn : n ≤ 4096) (h1 : 0 ≤ s.tk) (h2 : s.tk ≤ 10000) (h3 : s.sum ≤ 10000) (h4 : s.nx ≤ 10000000) (h5 : s.old = []) (h6 : tot t n ≤ 1048576) :
    Calls Yba.prog 11 #[.pointer (some ⟨bb, 0, none⟩), .slice oa n c] w (ApplyPost bb n (tot t n) s w) := by
  have HI := hid h
  have HS := hid hsc
  have fit : Hid (∀ (k : Nat) (s' : St), k ≤ n → Grows k (tot t k) s s' → s'.old = [] → Fit s') := fun k s' hk hg ho => by
    have e1 := hg.t0 h1
    have e2 := hg.tk
    have e3 := hg.sum
    have e4 := hg.nx
    have e5 := tot_le t hk
    exact ⟨e1, by omega, by omega, by omega, ho⟩
  have ts : Hid (∀ k, k < n → (t k).size ≤ 1048576) := fun k hk => by
    have : tot t (k + 1) ≤ tot t n := tot_le t hk
    simp only [tot] at this
    omega
  have kc := fun (w : World) (s : ByteArray) => Lib.run_convert_string_bytes (P := Yba.prog) w 9 30 5 s Yba.underlying9 Yba.underlying30 Yba.underlying5
  clear h hsc
  go_enter Yba.func11, Yba.ntmps11
  go_wp2
  go_loopw [4] (fun i wr => ∃ k : Nat, k ≤ n ∧ i = .int .i64 k ∧ Hid (∃ s', Inv bb wr s' ∧ Below bb w wr ∧ Grows k (tot t k) s s' ∧ s'.old = [])) (fun i _ => n - (intOf i).toNat)
  case atStart => exact ⟨0, Nat.zero_le _, rfl, s, HI.out, Below.refl _ _, Grows.refl _, h5⟩
  case round =>
    obtain ⟨k, hk, rfl, HR⟩ := hrel
    obtain ⟨s1, hI1, hB1, hG1, ho1⟩ := HR.out
    by_cases hlt : k < n
    · have hlt' : (k : Int) < (n : Int) := by omega
      have hscr := HS.out.below hB1 hB
      obtain ⟨b, o, rfl, hb, hcs⟩ := hscr.loc (by omega)
      obtain ⟨e0, e1, e2⟩ := hcs k hlt
      obtain ⟨u0, u1⟩ := hscr.u8 k hlt
      have HI1 := hid hI1
      have HB1 := hid hB1
      have HG1 := hid hG1
      have HF := hid (fit.out k s1 hk hG1 ho1)
      have hsz := hI1.lt
      have c2 : wr.cell? ⟨bb, 2, none⟩ = some (.slice s1.ao s1.sts.length s1.co) := hI1.cell 2
      have hcase : x k % 5 = 0 ∨ x k % 5 = 1 ∨ x k % 5 = 2 ∨ x k % 5 = 3 ∨ x k % 5 = 4 := by omega
      clear HR hI1 hB1 hG1 hscr hcs
      rcases hcase with hx | hx | hx | hx | hx
      · go_wp2_with (go_at_call 15; refine (null_any bb s1 _ (by exact HI1.out.alloc _) HF.out).mono ?_; rintro e w2 ⟨rfl, s2, hI2, hB2, hG2, ho2⟩; have HZ : Hid (∃ s', Inv bb w2 s' ∧ Below bb w w2 ∧ Grows (k + 1) (tot t (k + 1)) s s' ∧ s'.old = []) := ⟨s2, hI2, (HB1.out.alloc (Nat.le_of_lt hsz) _).trans hB2, HG1.out.step hG2 (by simp only [tot]; omega), ho2⟩; clear hI2 hB2 hG2 ho2)
        go_roundw
        case rel => exact ⟨k + 1, by omega, by go_num, HZ.out⟩
        case measure => simp [intOf]; omega
      · go_wp2_with (go_at_call 16; refine (number_any bb s1 _ (by exact HI1.out.alloc _) HF.out _).mono ?_; rintro e w2 ⟨rfl, s2, hI2, hB2, hG2, ho2⟩; have HZ : Hid (∃ s', Inv bb w2 s' ∧ Below bb w w2 ∧ Grows (k + 1) (tot t (k + 1)) s s' ∧ s'.old = []) := ⟨s2, hI2, (HB1.out.alloc (Nat.le_of_lt hsz) _).trans hB2, HG1.out.step hG2 (by simp only [tot]; omega), ho2⟩; clear hI2 hB2 hG2 ho2)
        go_roundw
        case rel => exact ⟨k + 1, by omega, by go_num, HZ.out⟩
        case measure => simp [intOf]; omega
      · go_wp2_with (go_at_call 17; refine (string_any bb s1 _ (by exact (HI1.out.alloc _).grown (grown_bytes _ _ _)) HF.out _ _ _ (by exact src_bytes _ _ _ (by simp)) (by intro y hy; cases hy; simp; omega) (by have := ts.out k hlt; omega)).mono ?_; rintro e w2 ⟨rfl, s2, hI2, hB2, hG2, ho2⟩; have HZ : Hid (∃ s', Inv bb w2 s' ∧ Below bb w w2 ∧ Grows (k + 1) (tot t (k + 1)) s s' ∧ s'.old = []) := ⟨s2, hI2, ((HB1.out.alloc (Nat.le_of_lt hsz) _).grown (grown_bytes _ _ _) (by simp; omega) (fun j hj => by cases hj)).trans hB2, HG1.out.step hG2 (by simp only [tot]; omega), ho2⟩; clear hI2 hB2 hG2 ho2)
        go_roundw
        case rel => exact ⟨k + 1, by omega, by go_num, HZ.out⟩
        case measure => simp [intOf]; omega
      · go_wp2_with (go_at_call 18; refine (beginArray_any bb s1 _ (by exact HI1.out.alloc _) HF.out).mono ?_; rintro e w2 ⟨rfl, s2, hI2, hB2, hG2, ho2⟩; have HZ : Hid (∃ s', Inv bb w2 s' ∧ Below bb w w2 ∧ Grows (k + 1) (tot t (k + 1)) s s' ∧ s'.old = []) := ⟨s2, hI2, (HB1.out.alloc (Nat.le_of_lt hsz) _).trans hB2, HG1.out.step hG2 (by simp only [tot]; omega), ho2⟩; clear hI2 hB2 hG2 ho2)
        go_roundw
        case rel => exact ⟨k + 1, by omega, by go_num, HZ.out⟩
        case measure => simp [intOf]; omega
      · rcases List.eq_nil_or_concat s1.sts with hs0 | ⟨ys, st, hs0⟩
        · rw [hs0] at c2
          have HZ : Hid (∀ o, ∃ s', Inv bb (wr.alloc o) s' ∧ Below bb w (wr.alloc o) ∧ Grows (k + 1) (tot t (k + 1)) s s' ∧ s'.old = []) := fun o => ⟨s1, HI1.out.alloc _, HB1.out.alloc (Nat.le_of_lt hsz) _, HG1.out.step (Grow.refl 0 _) (by simp only [tot]; omega), HF.out.old⟩
          go_wp2
          go_roundw
          case rel => exact ⟨k + 1, by omega, by go_num, HZ.out _⟩
          case measure => simp [intOf]; omega
        · have hs1 : s1.sts = ys ++ [st] := by rw [hs0]; simp
          have hs2 : s1.sts.length = ys.length + 1 := by rw [hs1]; simp
          rw [hs2] at c2
          have hpos : (0 : Int) < (ys.length : Int) + 1 := by omega
          go_wp2_with (go_at_call 19; refine (end_any bb s1 _ (by exact HI1.out.alloc _) HF.out ys st hs1).mono ?_; rintro e w2 ⟨rfl, s2, hI2, hB2, hG2, ho2⟩; have HZ : Hid (∃ s', Inv bb w2 s' ∧ Below bb w w2 ∧ Grows (k + 1) (tot t (k + 1)) s s' ∧ s'.old = []) := ⟨s2, hI2, (HB1.out.alloc (Nat.le_of_lt hsz) _).trans hB2, HG1.out.step hG2 (by simp only [tot]; omega), ho2⟩; clear hI2 hB2 hG2 ho2)
          go_roundw
          case rel => exact ⟨k + 1, by omega, by go_num, HZ.out⟩
          case measure => simp [intOf]; omega
    · obtain rfl : k = n := by omega
      go_wp2
      go_end0
      exact ⟨rfl, s1, hI1, hB1, hG1, ho1⟩
end Go.Proofs.Ybulkeesq
