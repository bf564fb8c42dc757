/- String: one item counted, the mark, the length, the bytes. -/
import Derived.Test.YbulkeesqFmtStr2
namespace Go.Proofs.YbulkeesqFmt
open Go.RowKit Go.Joins Go.Extern.Stop Go.Stop Go.Extern

def bump1 (f : Bool × Int × Int) : Bool × Int × Int := if f.1 = true then f else (f.1, f.2.1, IntKind.u64.wrap (f.2.2 + 1))
def bump : List (Bool × Int × Int) → List (Bool × Int × Int)
  | [] => []
  | [f] => [bump1 f]
  | f :: g :: t => f :: bump (g :: t)
theorem bump_snoc (l : List (Bool × Int × Int)) (f : Bool × Int × Int) : bump (l ++ [f]) = l ++ [bump1 f] := by
  induction l with
  | nil => rfl
  | cons a l ih =>
    cases l with
    | nil => rfl
    | cons b t => show a :: bump (b :: t ++ [f]) = _; rw [ih]; rfl
theorem bump_length (fs : List (Bool × Int × Int)) : (bump fs).length = fs.length := by
  rcases List.eq_nil_or_concat fs with rfl | ⟨l, f, rfl⟩
  · rfl
  · rw [List.concat_eq_append, bump_snoc]; simp
theorem framesCells_append (l k : List (Bool × Int × Int)) : framesCells (l ++ k) = framesCells l ++ framesCells k := by simp [framesCells]

theorem frames_bump (l : List (Bool × Int × Int)) (a c c' : Int) : (framesCells (l ++ [(false, a, c)])).toArray.setIfInBounds (l.length * 3 + 2) (.int .u64 c') = (framesCells (l ++ [(false, a, c')])).toArray := by
  have e1 : framesCells (l ++ [(false, a, c)]) = framesCells l ++ [.bool false, .int .i64 a, .int .u64 c] := by rw [framesCells_append]; rfl
  have e2 : framesCells (l ++ [(false, a, c')]) = framesCells l ++ [.bool false, .int .i64 a, .int .u64 c'] := by rw [framesCells_append]; rfl
  rw [e1, e2, ← framesCells_length l]
  apply Array.ext'
  simp only [List.setIfInBounds_toArray]
  rw [List.set_append_right _ _ (by omega)]
  simp

/-- The Writer's stack of containers in memory. -/
def Opn (bw : Nat) (w : World) (ov : Value) (fs : List (Bool × Int × Int)) : Prop :=
  (∃ ao, ov = .slice ao 0 0 ∧ fs = []) ∨ ∃ g, ov = .slice (some ⟨g, 0, none⟩) fs.length fs.length ∧ bw < g ∧ w.heap[g]? = some (.cells (framesCells fs).toArray 34 (0, 0))

theorem Opn.kept {bw : Nat} {w w' : World} {ov : Value} {fs : List (Bool × Int × Int)} (h : Opn bw w ov fs) (hk : Kept bw w w') : Opn bw w' ov fs := by
  rcases h with h | ⟨g, hv, hg, hh⟩
  · exact .inl h
  · exact .inr ⟨g, hv, hg, hk.frames g _ hh⟩

theorem owns_frames {w : World} {g base n i : Nat} {cs : Array Value} {v u : Value} {xs : List Value} (h : w.heap[g]? = some (.cells cs 34 (0, 0))) (hown : w.ownsRow base 5 1 v n xs) : (w.setCell ⟨g, i, none⟩ u).ownsRow base 5 1 v n xs := by
  obtain ⟨h1, h2⟩ := hown
  refine ⟨h1, ?_⟩
  rcases h2 with h2 | ⟨g2, cap, cur, hv, hb, hh, r⟩
  · exact .inl h2
  · refine .inr ⟨g2, cap, cur, hv, hb, ?_, r⟩
    rw [Below.heap_setCell _ _ _ _ (by rintro rfl; rw [h] at hh; simp at hh)]
    exact hh

theorem item_any (bw : Nat) (b ov e : Value) (fs : List (Bool × Int × Int)) (w : World) (h : Wr w bw b ov e) (hO : Opn bw w ov fs) (hl : fs.length ≤ 1048576) :
    Calls Ybaf.prog 6 #[.pointer (some ⟨bw, 0, none⟩)] w fun r w' => r = .returned (.tuple #[]) ∧ Wr w' bw b ov e ∧ Opn bw w' ov (bump fs) ∧ Below bw w w' ∧
      ∀ base v n xs, w.ownsRow base 5 1 v n xs → w'.ownsRow base 5 1 v n xs := by
  have empty : ∀ ao, ov = .slice ao 0 0 → fs = [] → Calls Ybaf.prog 6 #[.pointer (some ⟨bw, 0, none⟩)] w fun r w' => r = .returned (.tuple #[]) ∧ Wr w' bw b ov e ∧ Opn bw w' ov (bump fs) ∧ Below bw w w' ∧
      ∀ base v n xs, w.ownsRow base 5 1 v n xs → w'.ownsRow base 5 1 v n xs := by
    rintro ao rfl rfl
    refine (item_none bw b e ao w h).mono ?_
    rintro r w' ⟨rfl, m, rfl⟩
    exact ⟨rfl, h.drewN m, .inl ⟨ao, rfl, rfl⟩, below_drewN (Below.refl _ _) m, fun _ _ _ _ h => h⟩
  rcases hO with ⟨ao, hv, hf⟩ | ⟨g, hv, hg, hh⟩
  · exact empty ao hv hf
  · rcases List.eq_nil_or_concat fs with rfl | ⟨l, f, hfs⟩
    · exact empty _ hv rfl
    · rw [List.concat_eq_append] at hfs
      subst hfs
      obtain ⟨kd, a, c⟩ := f
      have hlen : (l ++ [(kd, a, c)]).length = l.length + 1 := by simp
      rw [hlen] at hv hl
      subst hv
      have hat := framesCells_at (l ++ [(kd, a, c)]) l.length (by simp)
      have hcell := fun i => cell_of_block hh i
      have hs1 : w.cell? ⟨g, l.length * 3, none⟩ = some (.bool kd) := by rw [hcell]; simpa using hat.1
      have hs3 : w.cell? ⟨g, l.length * 3 + 2, none⟩ = some (.int .u64 c) := by rw [hcell]; simpa using hat.2.2
      cases kd with
      | true =>
        refine (item_keyed bw g l.length b e w (by omega) h hs1).mono ?_
        rintro r w' ⟨rfl, m, rfl⟩
        refine ⟨rfl, h.drewN m, .inr ⟨g, ?_, hg, ?_⟩, below_drewN (Below.refl _ _) m, fun _ _ _ _ h => h⟩
        · rw [bump_length, hlen]
        · rw [bump_snoc]; exact hh
      | false =>
        refine (item_bump bw g l.length b e c w (by omega) h hs1 hs3 (unfrozen_of_block hh _)).mono ?_
        rintro r w' ⟨rfl, m, rfl⟩
        refine ⟨rfl, (h.other (a := ⟨g, l.length * 3 + 2, none⟩) (by simp; omega) _).drewN m, .inr ⟨g, ?_, hg, ?_⟩, below_drewN ((Below.refl _ _).setCell (by simp; omega) _) m, fun base v n xs ho => owns_frames (i := l.length * 3 + 2) hh ho⟩
        · rw [bump_length, hlen]
        · have := block_setCell (i := l.length * 3 + 2) hh (.int .u64 (IntKind.u64.wrap (c + 1)))
          show (w.setCell ⟨g, l.length * 3 + 2, none⟩ _).heap[g]? = _
          rw [this, bump_snoc]
          show some (Obj.cells _ 34 (0, 0)) = some (Obj.cells _ 34 (0, 0))
          rw [frames_bump l a c (IntKind.u64.wrap (c + 1))]
          rfl

set_option maxHeartbeats 1000000 in
theorem string_any (F : Interp) (bw n nb c : Nat) (bufv ov e : Value) (fs : List (Bool × Int × Int)) (ao : Option Addr) (bs X : List Value) (w : World) (hF : F.answers w.tape) (hW : Wr w bw bufv ov e) (he : e = .nilIface ∨ ∃ u p, e = .iface u p)
    (hown : w.ownsRow (bw + 1) 5 1 bufv nb bs) (hO : Opn bw w ov fs) (hl : fs.length ≤ 1048576) (hsrc : Src bw w ao n c X) (hn : n ≤ 1200000) (hnb : nb ≤ 1900000) :
    Calls Ybaf.prog 5 #[.pointer (some ⟨bw, 0, none⟩), .slice ao n c] w fun r w' => r = .returned (.tuple #[]) ∧
      ∃ g' cap' e', Wr w' bw (.slice (some ⟨g', 0, none⟩) (nb + 1 + 2 + n) cap') ov e' ∧
        w'.ownsRow (bw + 1) 5 1 (.slice (some ⟨g', 0, none⟩) (nb + 1 + 2 + n) cap') (nb + 1 + 2 + n) (bs ++ [.int .u8 2] ++ (.int .u8 (IntKind.u16.wrap (n : Int) / 256) :: .int .u8 (IntKind.u16.wrap (n : Int) % 256) :: X)) ∧
        ErrOf n e e' ∧ Opn bw w' ov (bump fs) ∧ Below bw w w' := by
  obtain ⟨i0, hi, hz0, hz1, hz2⟩ := info_parts Ybaf.info5
  have HW := hid hW
  have HB := hid hown
  have HO := hid hO
  have HS := hid hsrc
  have HE := hid he
  have HF := hid hF
  clear hW hown hO hsrc he hF
  go_enter Ybaf.func5, Ybaf.ntmps5
  go_wp2_with fail
  refine (item_any bw bufv ov e fs _ HW.out HO.out hl).mono ?_
  rintro r w1 ⟨rfl, hW1, hO1, hb1, hk1⟩
  have hB1 := hk1 _ _ _ _ HB.out
  have HF1 : Hid (F.answers w1.tape) := by rw [Hid, hb1.tape]; exact HF.out
  have HS1 := hid (HS.out.kept hb1)
  have h0 := hW1.c0
  have hf := hW1.fr 0
  have HW1 := hid hW1
  have HO1 := hid hO1
  have Hb1 := hid hb1
  have HB1 := hid hB1
  clear hW1 hO1 hb1 hk1 hB1 HS HF HW HO HB
  go_wp2_with (at_builtin; go_must (refine wpList_append_own _ rfl _ _ 22 rfl (bw + 1) 5 i0 (.int .u8 0) 1 1 Ybaf.underlying22 hi hz0 hz1 hz2 rfl (by decide) _ nb bs rfl (HB1.out.alloc _) ⟨w1.heap.size, 0, none⟩ 1 1 [.int .u8 2] rfl rfl (cell_one_new _ _ _) ?_ ?_ ?_ ?_ ?_))
  · intro u hu; simp at hu; subst hu; rfl
  · unfold maxLen; omega
  · omega
  · have := HW1.out.lt; simp; omega
  · intro v2 w2 hown2 hg2 _
    obtain ⟨g2, cap2, rfl⟩ := ownsRow_form hown2 (by omega)
    have hW2 := HW1.out.grown (grown_alloc hg2) (HW1.out.ne HB1.out)
    have hK2 := (Kept.refl bw w1).grown HB1.out (Nat.le_succ _) (grown_alloc hg2) (Nat.le_of_lt HW1.out.lt)
    have h02 := hW2.c0
    have hf2 := hW2.fr 0
    have HW3 := hid (hW2.set0 (.slice (some ⟨g2, 0, none⟩) (nb + 1) cap2))
    have HB3 := hid (owns_set (i := 0) (u := .slice (some ⟨g2, 0, none⟩) (nb + 1) cap2) hW2 hown2)
    have HK3 := hid (hK2.set (i := 0) hW2 (.slice (some ⟨g2, 0, none⟩) (nb + 1) cap2))
    clear hW2 hK2 hg2 hown2
    go_wp2_with fail
    refine (str_any F bw n (nb + 1) c _ ov e ao (bs ++ [.int .u8 2]) X _ (answers_kept HF1.out HK3.out) HW3.out HE.out HB3.out (HS1.out.kept HK3.out.below) hn (by omega)).mono ?_
    rintro r w4 ⟨rfl, g4, cap4, e4, hW4, hB4, hE4, hK4⟩
    have HW4 := hid hW4
    have HB4 := hid hB4
    have HE4 := hid hE4
    have HO4 := hid ((HO1.out.kept HK3.out).kept hK4)
    have Hb4 := hid ((Hb1.out.trans HK3.out.below).trans hK4.below)
    clear hW4 hB4 hE4 hK4
    go_wp2
    go_end0
    exact ⟨rfl, g4, cap4, e4, HW4.out, HB4.out, HE4.out, HO4.out, Hb4.out⟩
end Go.Proofs.YbulkeesqFmt
