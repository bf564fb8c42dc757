/- str: the length's two bytes, then the bytes; an error where the length does not fit. -/
import Derived.Test.YbulkeesqFmtStr
import Derived.Deep.Cut
namespace Go.Proofs.YbulkeesqFmt
open Go.RowKit Go.Joins Go.Extern.Stop Go.Stop Go.Extern

/-- Nothing below 'bw' has turned, and no block of frames. -/
structure Kept (bw : Nat) (w w' : World) : Prop where
  below : Below bw w w'
  frames : ∀ (k : Nat) (cs : Array Value), w.heap[k]? = some (Obj.cells cs 34 (0, 0)) → w'.heap[k]? = some (Obj.cells cs 34 (0, 0))
theorem Kept.refl (bw : Nat) (w : World) : Kept bw w w := ⟨Below.refl _ _, fun _ _ h => h⟩
theorem Kept.trans {bw : Nat} {a b c : World} (h : Kept bw a b) (k : Kept bw b c) : Kept bw a c := ⟨h.below.trans k.below, fun i cs e => k.frames i cs (h.frames i cs e)⟩
theorem Kept.drewN {bw : Nat} {a b : World} (h : Kept bw a b) (n : Nat) : Kept bw a (b.drewN n) := ⟨below_drewN h.below n, h.frames⟩
theorem Kept.drew {bw : Nat} {a b : World} (h : Kept bw a b) : Kept bw a b.drew := ⟨h.below.drew, h.frames⟩
theorem Kept.alloc {bw : Nat} {a b : World} (h : Kept bw a b) (hb : bw ≤ b.heap.size) (o : Obj) : Kept bw a (b.alloc o) :=
  ⟨h.below.alloc hb o, fun k cs e => by
    have e2 := h.frames k cs e
    rw [Below.heap_alloc _ _ _ (Array.getElem?_eq_some_iff.1 e2).1]; exact e2⟩
theorem Kept.set {bw i : Nat} {a b : World} {x o e : Value} (h : Kept bw a b) (hW : Wr b bw x o e) (v : Value) : Kept bw a (b.setCell ⟨bw, i, none⟩ v) :=
  ⟨h.below.setCell (Nat.le_refl _) v, fun k cs e2 => by
    have e3 := h.frames k cs e2
    rw [Below.heap_setCell _ _ _ _ (by rintro rfl; rw [Wr, e3] at hW; simp at hW)]; exact e3⟩
theorem Kept.grown {bw base n : Nat} {a b c : World} {v : Value} {xs : List Value} (h : Kept bw a b) (hown : b.ownsRow base 5 1 v n xs) (hbase : bw ≤ base) (hg : b.grownBy c v.ownBlock) (hb : bw ≤ b.heap.size) : Kept bw a c :=
  ⟨h.below.grown hg hb (fun k e => Nat.le_trans hbase (hown.lt k e).1), fun k cs e => by
    have e3 := h.frames k cs e
    rw [hg.block k (Array.getElem?_eq_some_iff.1 e3).1 ?_]
    · exact e3
    · intro e4
      obtain ⟨_, h2⟩ := hown
      rcases h2 with ⟨rfl, _⟩ | ⟨g, cap, cur, rfl, _, hh, _⟩
      · simp [Value.ownBlock] at e4
      · simp [Value.ownBlock] at e4
        subst e4
        rw [hh] at e3; simp at e3⟩

/-- What becomes of the Writer's error where 'n' bytes are written. -/
def ErrOf (n : Nat) (e e' : Value) : Prop := (e ≠ .nilIface → e' = e) ∧ (e = .nilIface → n ≤ 65535 → e' = .nilIface) ∧ (e = .nilIface → 65535 < n → ∃ p, e' = .iface 38 (.pointer (some p)))

/-- What a source of bytes is: nil and empty, or its cells lie below 'bw'. -/
def Src (bw : Nat) (w : World) (ao : Option Addr) (n c : Nat) (X : List Value) : Prop :=
  X.length = n ∧ (∀ u ∈ X, u.oneCell' = true) ∧ (ao = none → n = 0 ∧ c = 0) ∧ ∀ ad, ao = some ad → ∀ j u, X[j]? = some u → (ad.add j).block < bw ∧ w.cell? (ad.add j) = some u

theorem Src.kept {bw n c : Nat} {w w' : World} {ao : Option Addr} {X : List Value} (h : Src bw w ao n c X) (hb : Below bw w w') : Src bw w' ao n c X :=
  ⟨h.1, h.2.1, h.2.2.1, fun ad e j u hj => ⟨(h.2.2.2 ad e j u hj).1, (hb.cell (h.2.2.2 ad e j u hj).1).trans (h.2.2.2 ad e j u hj).2⟩⟩

theorem answers_kept {bw : Nat} {w w' : World} {F : Interp} (h : F.answers w.tape) (hk : Kept bw w w') : F.answers w'.tape := by rw [hk.below.tape]; exact h

set_option maxHeartbeats 2000000 in
theorem str_any (F : Interp) (bw n nb c : Nat) (bufv o e : Value) (ao : Option Addr) (bs X : List Value) (w : World) (hF : F.answers w.tape) (hW : Wr w bw bufv o e) (he : e = .nilIface ∨ ∃ u p, e = .iface u p)
    (hown : w.ownsRow (bw + 1) 5 1 bufv nb bs) (hsrc : Src bw w ao n c X) (hn : n ≤ 1200000) (hnb : nb ≤ 2000000) :
    Calls Ybaf.prog 7 #[.pointer (some ⟨bw, 0, none⟩), .slice ao n c, .int .i64 2, .string ⟨#[115, 116, 114, 105, 110, 103]⟩] w fun r w' => r = .returned (.tuple #[]) ∧
      ∃ g' cap' e', Wr w' bw (.slice (some ⟨g', 0, none⟩) (nb + 2 + n) cap') o e' ∧ w'.ownsRow (bw + 1) 5 1 (.slice (some ⟨g', 0, none⟩) (nb + 2 + n) cap') (nb + 2 + n) (bs ++ (.int .u8 (IntKind.u16.wrap (n : Int) / 256) :: .int .u8 (IntKind.u16.wrap (n : Int) % 256) :: X)) ∧ ErrOf n e e' ∧ Kept bw w w' := by
  obtain ⟨i0, hi, hz0, hz1, hz2⟩ := info_parts Ybaf.info5
  have hx0 : 0 ≤ IntKind.u16.wrap (n : Int) := by rw [IntKind.wrap_u16]; omega
  have hx1 : IntKind.u16.wrap (n : Int) ≤ 65535 := by rw [IntKind.wrap_u16]; omega
  have HW := hid hW
  have HO := hid hown
  have HS := hid hsrc
  clear hW hown hsrc
  go_enter Ybaf.func7, Ybaf.ntmps7
  go_upto_if 19 with fail
  go_cut [] from 10 (fun w1 => Hid (∃ e', Wr w1 bw bufv o e' ∧ w1.ownsRow (bw + 1) 5 1 bufv nb bs ∧ ErrOf n e e' ∧ Kept bw w w1))
  case first =>
    by_cases hbig : 65535 < n
    · have hbig' : (65535 : Int) < (n : Int) := by omega
      rcases he with rfl | ⟨u, p, rfl⟩
      · go_wp2_with fail
        refine (errorf_any F ⟨#[115, 116, 114, 105, 110, 103]⟩ (n : Int) 65535 w.heap.size _ ?_ ?_ ?_ ?_ ?_).mono ?_
        · exact hF
        · simp
        · simp
        · simp
        · simp
        · rintro r w2 ⟨rfl, s, rfl⟩
          have hW2 := ((HW.out.alloc (.cells #[.iface 9 (.string ⟨#[115, 116, 114, 105, 110, 103]⟩), .iface 30 (.int .u64 n), .iface 9 (.string ⟨#[115, 116, 114, 105, 110, 103]⟩), .iface 30 (.int .u64 65535)] 20)).alloc (.cells #[.string s] 40)).drew
          have hO2 := ((HO.out.alloc (.cells #[.iface 9 (.string ⟨#[115, 116, 114, 105, 110, 103]⟩), .iface 30 (.int .u64 n), .iface 9 (.string ⟨#[115, 116, 114, 105, 110, 103]⟩), .iface 30 (.int .u64 65535)] 20)).alloc (.cells #[.string s] 40)).drew
          have hK2 := (((Kept.refl bw w).alloc (Nat.le_of_lt HW.out.lt) (.cells #[.iface 9 (.string ⟨#[115, 116, 114, 105, 110, 103]⟩), .iface 30 (.int .u64 n), .iface 9 (.string ⟨#[115, 116, 114, 105, 110, 103]⟩), .iface 30 (.int .u64 65535)] 20)).alloc (by have := HW.out.lt; simp; omega) (.cells #[.string s] 40)).drew
          have HW2 := hid hW2
          have HO2 := hid hO2
          have HK2 := hid hK2
          clear hW2 hO2 hK2
          go_wp2_with fail
          refine (fail_nil bw bufv o 38 _ _ (by exact HW2.out)).mono ?_
          rintro r w3 ⟨rfl, rfl⟩
          go_wp2
          go_meet
          case rel => exact ⟨_, HW2.out.set2 _, owns_set HW2.out HO2.out, ⟨fun h => absurd rfl h, fun _ h => absurd hbig (by omega), fun _ _ => ⟨_, rfl⟩⟩, HK2.out.set HW2.out _⟩
      · go_wp2_with fail
        refine (errorf_any F ⟨#[115, 116, 114, 105, 110, 103]⟩ (n : Int) 65535 w.heap.size _ ?_ ?_ ?_ ?_ ?_).mono ?_
        · exact hF
        · simp
        · simp
        · simp
        · simp
        · rintro r w2 ⟨rfl, s, rfl⟩
          have hW2 := ((HW.out.alloc (.cells #[.iface 9 (.string ⟨#[115, 116, 114, 105, 110, 103]⟩), .iface 30 (.int .u64 n), .iface 9 (.string ⟨#[115, 116, 114, 105, 110, 103]⟩), .iface 30 (.int .u64 65535)] 20)).alloc (.cells #[.string s] 40)).drew
          have hO2 := ((HO.out.alloc (.cells #[.iface 9 (.string ⟨#[115, 116, 114, 105, 110, 103]⟩), .iface 30 (.int .u64 n), .iface 9 (.string ⟨#[115, 116, 114, 105, 110, 103]⟩), .iface 30 (.int .u64 65535)] 20)).alloc (.cells #[.string s] 40)).drew
          have hK2 := (((Kept.refl bw w).alloc (Nat.le_of_lt HW.out.lt) (.cells #[.iface 9 (.string ⟨#[115, 116, 114, 105, 110, 103]⟩), .iface 30 (.int .u64 n), .iface 9 (.string ⟨#[115, 116, 114, 105, 110, 103]⟩), .iface 30 (.int .u64 65535)] 20)).alloc (by have := HW.out.lt; simp; omega) (.cells #[.string s] 40)).drew
          have HW2 := hid hW2
          have HO2 := hid hO2
          have HK2 := hid hK2
          clear hW2 hO2 hK2
          go_wp2_with fail
          refine (fail_had bw bufv o 38 u _ p _ (by exact HW2.out)).mono ?_
          rintro r w3 ⟨rfl, rfl⟩
          go_wp2
          go_meet
          case rel => exact ⟨_, HW2.out, HO2.out, ⟨fun _ => rfl, fun h => (nomatch h), fun h => (nomatch h)⟩, HK2.out⟩
    · have hbig' : ¬ (65535 : Int) < (n : Int) := by omega
      go_wp2
      go_meet
      case rel => exact ⟨e, HW.out, HO.out, ⟨fun _ => rfl, fun h _ => h, fun _ h => absurd h hbig⟩, Kept.refl _ _⟩
  case rest =>
    obtain ⟨e', hW1, hO1, hE, hK1⟩ := hcut.out
    have h0 := hW1.c0
    have hf := hW1.fr 0
    have HE := hid hE
    have HK1 := hid hK1
    have HW1 := hid hW1
    have HO1 := hid hO1
    clear hcut hE hK1 hW1 hO1 HW HO
    cases ao with
    | none =>
      obtain ⟨hX, h1c, hno, _⟩ := HS.out
      obtain ⟨rfl, rfl⟩ := hno rfl
      obtain rfl : X = [] := List.eq_nil_of_length_eq_zero hX
      clear hX h1c hno HS
      go_wp2
      go_region_with (go_at_call 10; refine (app16 (bw + 1) nb bufv bs _ _ (by exact HO1.out) (by exact HW1.out.lt) (by omega) hx0 hx1).mono ?_; rintro e1 w1 ⟨g1, cap1, rfl, hown1, hg1⟩; have hW2 := HW1.out.drew.grown hg1 (HW1.out.ne HO1.out); have hK2 := HK1.out.drew.grown HO1.out (Nat.le_succ _) hg1 (Nat.le_of_lt HW1.out.lt); have h01 := hW2.c0; have hf1 := hW2.fr 0)
      all_goals
        have hO2 := owns_set (i := 0) (u := .slice (some ⟨g1, 0, none⟩) (nb + 2) cap1) hW2 hown1
        have hW3 := hW2.set0 (.slice (some ⟨g1, 0, none⟩) (nb + 2) cap1)
        have hK3 := hK2.set (i := 0) hW2 (.slice (some ⟨g1, 0, none⟩) (nb + 2) cap1)
        have h03 := hW3.c0
        have hf3 := hW3.fr 0
        go_wp2_with (at_builtin; refine wpList_append_own_none rfl _ _ 22 rfl (bw + 1) 5 i0 1 Ybaf.underlying22 hi _ (nb + 2) _ rfl hO2 rfl ?_)
        go_end0
        exact ⟨rfl, g1, cap1, e', hW3.set0 _, owns_set hW3 hO2, HE.out, hK3.set hW3 _⟩
    | some ad =>
      obtain ⟨hX, h1c, _, hcell⟩ := HS.out
      have HC : Hid (∀ j u, X[j]? = some u → (ad.add j).block < bw ∧ w.cell? (ad.add j) = some u) := hcell ad rfl
      have H1 := hid h1c
      have HX := hid hX
      clear hcell HS h1c hX
      go_wp2
      go_region_with (go_at_call 10; refine (app16 (bw + 1) nb bufv bs _ _ (by exact HO1.out) (by exact HW1.out.lt) (by omega) hx0 hx1).mono ?_; rintro e1 w1 ⟨g1, cap1, rfl, hown1, hg1⟩; have hW2 := HW1.out.drew.grown hg1 (HW1.out.ne HO1.out); have hK2 := HK1.out.drew.grown HO1.out (Nat.le_succ _) hg1 (Nat.le_of_lt HW1.out.lt); have h01 := hW2.c0; have hf1 := hW2.fr 0)
      all_goals
        have hO2 := owns_set (i := 0) (u := .slice (some ⟨g1, 0, none⟩) (nb + 2) cap1) hW2 hown1
        have hW3 := hW2.set0 (.slice (some ⟨g1, 0, none⟩) (nb + 2) cap1)
        have hK3 := hK2.set (i := 0) hW2 (.slice (some ⟨g1, 0, none⟩) (nb + 2) cap1)
        have h03 := hW3.c0
        have hf3 := hW3.fr 0
        go_wp2_with (at_builtin; go_must (refine wpList_append_own _ rfl _ _ 22 rfl (bw + 1) 5 i0 (.int .u8 0) 1 1 Ybaf.underlying22 hi hz0 hz1 hz2 rfl (by decide) _ (nb + 2) _ rfl hO2 ad n c X rfl ?_ ?_ ?_ ?_ ?_ ?_ ?_))
        · rw [HX.out]; omega
        · exact fun j u hj => (hK3.below.cell (HC.out j u hj).1).trans (HC.out j u hj).2
        · exact H1.out
        · unfold maxLen; omega
        · omega
        · exact hW3.lt
        · intro v4 w4 hown4 hg4 _
          obtain ⟨g4, cap4, rfl⟩ := ownsRow_form hown4 (by omega)
          have hW4 := hW3.grown hg4 (hW3.ne hO2)
          have hK4 := hK3.grown hO2 (Nat.le_succ _) hg4 (Nat.le_of_lt hW3.lt)
          have h04 := hW4.c0
          have hf4 := hW4.fr 0
          clear hg4 hK3 hW3 hO2 hg1 hK2 hW2 hown1
          go_wp2
          go_end0
          exact ⟨rfl, g4, cap4, e', hW4.set0 _, owns_set hW4 hown4, HE.out, hK4.set hW4 _⟩
end Go.Proofs.YbulkeesqFmt
