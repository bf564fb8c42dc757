/- The law's walk. -/
import Derived.Test.YbulkeesqFmtArgs
import Derived.Deep.DeepCutAuto
namespace Go.Proofs.YbulkeesqFmt
open Go.RowKit Go.Joins Go.Extern.Stop Go.Stop Go.Extern

/-- The law's stack of containers, as it came in. -/
def ArgOpen (w : World) (ao : Option Addr) (no co : Nat) (fs : List (Bool × Int × Int)) : Prop :=
  fs.length = no ∧ (ao = none → no = 0 ∧ co = 0) ∧ (0 < no → ∃ b off, ao = some ⟨b, off, none⟩ ∧ b < w.heap.size ∧ ∀ i (hi : i < fs.length),
    w.cell? ⟨b, off + i * 3, none⟩ = some (.bool fs[i].1) ∧ w.cell? ⟨b, off + i * 3 + 1, none⟩ = some (.int .i64 fs[i].2.1) ∧ w.cell? ⟨b, off + i * 3 + 2, none⟩ = some (.int .u64 fs[i].2.2))

/-- The first k bytes are filled. -/
def Fill (w wr : World) (N ns k : Nat) (fz : Nat → Int) : Prop :=
  Below w.heap.size w wr ∧ ∃ cur : List Value, wr.heap[w.heap.size]? = some (.cells cur.toArray 5 (0, 0)) ∧ cur.length = N ∧ ∀ j, j < k → cur[j]? = some (.int .u8 (fz (j % ns)))
theorem Fill.start {w w1 : World} {N ns : Nat} {fz f0 : Nat → Int} (hb : Below w.heap.size w w1) (h : w1.heap[w.heap.size]? = some (.cells (cellsOf f0 N).toArray 5 (0, 0))) : Fill w w1 N ns 0 fz :=
  ⟨hb, _, h, cellsOf_length _ _, fun _ hj => absurd hj (Nat.not_lt_zero _)⟩
theorem Fill.here {w wr : World} {N ns k : Nat} {fz : Nat → Int} (h : Fill w wr N ns k fz) (hk : k < N) : (∃ v, wr.cell? ⟨w.heap.size, k, none⟩ = some v) ∧ wr.frozen? ⟨w.heap.size, k, none⟩ = false := by
  obtain ⟨_, cur, hh, hl, _⟩ := h
  refine ⟨⟨cur[k], ?_⟩, unfrozen_of_block hh k⟩
  rw [cell_of_block hh]; simp
theorem Fill.next {w wr : World} {N ns k : Nat} {fz : Nat → Int} (h : Fill w wr N ns k fz) (hk : k < N) : Fill w (wr.setCell ⟨w.heap.size, k, none⟩ (.int .u8 (fz (k % ns)))) N ns (k + 1) fz := by
  obtain ⟨hb, cur, hh, hl, hc⟩ := h
  refine ⟨hb.setCell (Nat.le_refl _) _, cur.set k (.int .u8 (fz (k % ns))), ?_, by simpa using hl, fun j hj => ?_⟩
  · rw [block_setCell hh, List.setIfInBounds_toArray]
  · by_cases e : j = k
    · subst e; rw [List.getElem?_set_self (by omega)]
    · rw [List.getElem?_set_ne (by omega)]; exact hc j (by omega)
theorem Fill.done {w wr : World} {N ns : Nat} {fz : Nat → Int} (h : Fill w wr N ns N fz) : wr.heap[w.heap.size]? = some (.cells (cellsOf (fun i => fz (i % ns)) N).toArray 5 (0, 0)) := by
  obtain ⟨_, cur, hh, hl, hc⟩ := h
  rw [hh, cellsOf_ext hl hc]

theorem neq22 (w : World) (a : Option Addr) (n c n' c' : Nat) : (binOp .neq 22 (.slice a n c) (.slice none n' c')).run Ybaf.prog w = .ok (.bool (!a.isNone)) w := run_neq_slice_nil_any w _ _ a n c n' c' Ybaf.underlying22

/-- 'copy(dst, src)' of n bytes into a row of n. -/
theorem wpList_copy_bytes {w : World} {ops : Array Oper} {rest : List Oper} {o : Oper} {a : Act} {Q : Exit → Act → World → Prop} (hgd : o.guard = none) (d s : Operand)
    (ho : o.op = .call { callee := .builtin .copy, args := #[d, s], argTypes := #[22, 22] }) (g n c bw : Nat) (ao : Option Addr) (hd : a.eval d = .slice (some ⟨g, 0, none⟩) n n) (hs : a.eval s = .slice ao n c)
    (f0 f : Nat → Int) (hg : w.heap[g]? = some (.cells (cellsOf f0 n).toArray 5 (0, 0))) (hsrc : Src bw w ao n c (cellsOf f n)) (B : Nat) (W0 : World) (hb : Below B W0 w) (hB : B ≤ g)
    (h : ∀ w', Hid (w'.heap[g]? = some (.cells (cellsOf f n).toArray 5 (0, 0))) → Below B W0 w' → wpList Ybaf.prog ops Q rest (a.put o.dst (.int .i64 n)) w') :
    wpList Ybaf.prog ops Q (o :: rest) a w := by
  refine wpList_copy_splice hgd d s 22 22 ho 5 Ybaf.underlying22 Ybaf.size5 _ _ _ _ _ _ hd hs g 0 (cellsOf f0 n) 5 hg (cellsOf f n) (by rw [cellsOf_length]; simp) ?_ (by rw [cellsOf_length, cellsOf_length]; omega) (cellsOf_one f n) B W0 hb hB ?_
  · intro hp
    rw [cellsOf_length] at hp
    obtain ⟨_, _, h3, h4⟩ := hsrc
    cases ao with
    | none => have := (h3 rfl).1; omega
    | some ad => exact ⟨rfl, ad, rfl, fun j v hj => (h4 ad rfl j v hj).2⟩
  · intro w' H hb'
    have H2 := H.out
    rw [splice_all (cellsOf_length f0 n)] at H2
    have h3 := h w' H2 hb'
    rw [cellsOf_length]
    exact h3

/-- What the law has laid ahead of its Writer, and the arguments: all of it below 'bw'. -/
def Base (w : World) (bw ns c2 n ci c3 : Nat) (a2 ai a3 : Option Addr) (fz fi : Nat → Int) (x : World) : Prop :=
  Src bw x a2 ns c2 (cellsOf fz ns) ∧ Src bw x ai n ci (cellsOf fi n) ∧ Src bw x a3 n c3 (cellsOf fi n) ∧ Below w.heap.size w x ∧ w.heap.size ≤ bw
theorem Base.step {w x y : World} {bw ns c2 n ci c3 : Nat} {a2 ai a3 : Option Addr} {fz fi : Nat → Int} (h : Base w bw ns c2 n ci c3 a2 ai a3 fz fi x) (hb : Below bw x y) : Base w bw ns c2 n ci c3 a2 ai a3 fz fi y :=
  ⟨h.1.kept hb, h.2.1.kept hb, h.2.2.1.kept hb, h.2.2.2.1.trans (hb.mono h.2.2.2.2), h.2.2.2.2⟩
theorem Wr.below {w w' : World} {bw B : Nat} {b o e : Value} (h : Wr w bw b o e) (hb : Below B w w') (hB : bw < B) : Wr w' bw b o e := by
  unfold Wr; rw [hb.block bw hB]; exact h
theorem row_set {w : World} {g bw i : Nat} {cs : Array Value} {t : TypeId} {fr : Nat × Nat} (h : w.heap[g]? = some (.cells cs t fr)) (hne : g ≠ bw) (v : Value) : (w.setCell ⟨bw, i, none⟩ v).heap[g]? = some (.cells cs t fr) := by
  rw [Below.heap_setCell _ _ _ _ hne]; exact h
theorem owns_below {w w' : World} {base n : Nat} {v : Value} {xs : List Value} (h : w.ownsRow base 5 1 v n xs) (hb : Below w.heap.size w w') : w'.ownsRow base 5 1 v n xs := by
  obtain ⟨h1, h2⟩ := h
  refine ⟨h1, ?_⟩
  rcases h2 with h2 | ⟨g, cap, cur, hv, hg, hh, r⟩
  · exact .inl h2
  · exact .inr ⟨g, cap, cur, hv, hg, by rw [hb.block g (Array.getElem?_eq_some_iff.1 hh).1]; exact hh, r⟩
theorem wr_new (w : World) (b o e : Value) : Wr (w.alloc (.cells #[b, o, e] 29)) w.heap.size b o e := by
  show (w.heap.push _)[w.heap.size]? = _
  simp

theorem Ybaf.info34 : (Ybaf.prog.info? 34).map (fun i => (i.zero, i.size, i.bytes)) = some (some (.agg #[.bool false, .int .i64 0, .int .u64 0]), 3, 24) := by kernel_rfl
theorem made_frames : ∀ n : Nat, (madeCells #[Value.bool false, .int .i64 0, .int .u64 0] (n * 3)).toList = framesCells (List.replicate n (false, 0, 0)) := by
  intro n
  apply List.ext_getElem?
  intro i
  by_cases hi : i < n * 3
  · have e : (madeCells #[Value.bool false, .int .i64 0, .int .u64 0] (n * 3)).toList[i]? = some (#[Value.bool false, .int .i64 0, .int .u64 0][i % 3]!) := by simp [madeCells, hi]
    rw [e]
    obtain ⟨q, r, hr, rfl⟩ : ∃ q r, r < 3 ∧ i = q * 3 + r := ⟨i / 3, i % 3, Nat.mod_lt _ (by decide), by omega⟩
    have hq : q < n := by omega
    have hat := framesCells_at (List.replicate n (false, 0, 0)) q (by simpa using hq)
    rw [show (q * 3 + r) % 3 = r from by omega]
    rcases (show r = 0 ∨ r = 1 ∨ r = 2 from by omega) with rfl | rfl | rfl
    · rw [Nat.add_zero, hat.1]; simp
    · rw [hat.2.1]; simp
    · rw [hat.2.2]; simp
  · rw [List.getElem?_eq_none (by simp [madeCells]; omega), List.getElem?_eq_none (by rw [framesCells_length]; simp; omega)]
/-- 'make([]writerFrame, n)'. -/
theorem wpList_make_frames (w : World) {ops : Array Oper} {rest : List Oper} {o : Oper} {a : Act} {Q : Exit → Act → World → Prop} (hg : o.guard = none) (l c : Operand) (hop : o.op = Op.makeSlice 25 l c)
    (n : Nat) (hl : a.eval l = .int .i64 n) (hc : a.eval c = .int .i64 n) (hn : n ≤ 2000000)
    (hK : ∀ w', Below w.heap.size w w' → Hid (w'.heap[w.heap.size]? = some (.cells (framesCells (List.replicate n (false, 0, 0))).toArray 34 (0, 0))) → wpList Ybaf.prog ops Q rest (a.put o.dst (.slice (some ⟨w.heap.size, 0, none⟩) n n)) w') :
    wpList Ybaf.prog ops Q (o :: rest) a w := by
  obtain ⟨i0, hi, hz0, hz1, hz2⟩ := info_parts Ybaf.info34
  refine wpList_make_full w hg l c 25 hop w.heap.size 34 i0 (.agg #[.bool false, .int .i64 0, .int .u64 0]) 3 Ybaf.underlying25 hi hz0 hz1 .i64 .i64 _ _ n hl hc rfl rfl (by rw [hz2]; omega) (by unfold maxLen; omega) (Nat.le_refl _) ?_
  intro w' hown hgr
  refine hK w' ((Below.refl _ _).grown hgr (Nat.le_refl _) (by intro k h; cases h)) ?_
  obtain ⟨h1, h2⟩ := hown
  rcases h2 with ⟨h0, _⟩ | ⟨g', cap', cur, hv, _, hh, _, _, hsz, htk⟩
  · cases h0
  · cases hv
    show _ = _
    rw [hh]
    have e1 : cur.toList.take (n * 3) = cur.toList := List.take_of_length_le (by simpa using Nat.le_of_eq hsz)
    have e : cur.toList = framesCells (List.replicate n (false, 0, 0)) := by
      rw [← e1, htk]; exact made_frames n
    rw [← e]

/-- The first k frames are laid. -/
def Laid (g no k : Nat) (fs : List (Bool × Int × Int)) (wr : World) : Prop := wr.heap[g]? = some (.cells (framesCells (fs.take k ++ List.replicate (no - k) (false, 0, 0))).toArray 34 (0, 0))
theorem Laid.here {g no k : Nat} {fs : List (Bool × Int × Int)} {wr : World} (h : Laid g no k fs wr) (hl : fs.length = no) (hk : k < no) : ∃ x y z, wr.cell? ⟨g, k * 3, none⟩ = some x ∧ wr.cell? ⟨g, k * 3 + 1, none⟩ = some y ∧ wr.cell? ⟨g, k * 3 + 2, none⟩ = some z := by
  have hat := framesCells_at (fs.take k ++ List.replicate (no - k) (false, 0, 0)) k (by simp; omega)
  exact ⟨_, _, _, (cell_of_block h _).trans (by rw [List.getElem?_toArray]; exact hat.1), (cell_of_block h _).trans (by rw [List.getElem?_toArray]; exact hat.2.1), (cell_of_block h _).trans (by rw [List.getElem?_toArray]; exact hat.2.2)⟩
theorem frames_put (l r : List (Bool × Int × Int)) (f f' : Bool × Int × Int) :
    (((framesCells (l ++ f :: r)).toArray.setIfInBounds (l.length * 3) (.bool f'.1)).setIfInBounds (l.length * 3 + 1) (.int .i64 f'.2.1)).setIfInBounds (l.length * 3 + 2) (.int .u64 f'.2.2) = (framesCells (l ++ f' :: r)).toArray := by
  have e1 : ∀ h, framesCells (l ++ h :: r) = framesCells l ++ (.bool h.1 :: .int .i64 h.2.1 :: .int .u64 h.2.2 :: framesCells r) := fun h => by rw [framesCells_append]; rfl
  rw [e1, e1, ← framesCells_length l]
  apply Array.ext'
  simp only [List.setIfInBounds_toArray]
  rw [List.set_append_right _ _ (by omega), List.set_append_right _ _ (by omega), List.set_append_right _ _ (by omega)]
  simp
theorem Laid.next {g no k : Nat} {fs : List (Bool × Int × Int)} {wr : World} (h : Laid g no k fs wr) (hl : fs.length = no) (hk : k < fs.length) :
    Laid g no (k + 1) fs (((wr.setCell ⟨g, k * 3, none⟩ (.bool fs[k].1)).setCell ⟨g, k * 3 + 1, none⟩ (.int .i64 fs[k].2.1)).setCell ⟨g, k * 3 + 2, none⟩ (.int .u64 fs[k].2.2)) := by
  have h1 := block_setCell (i := k * 3) h (.bool fs[k].1)
  have h2 := block_setCell (i := k * 3 + 1) h1 (.int .i64 fs[k].2.1)
  have h3 := block_setCell (i := k * 3 + 2) h2 (.int .u64 fs[k].2.2)
  unfold Laid
  rw [h3]
  have e1 : fs.take k ++ List.replicate (no - k) ((false, 0, 0) : Bool × Int × Int) = fs.take k ++ (false, 0, 0) :: List.replicate (no - (k + 1)) (false, 0, 0) := by
    rw [show no - k = (no - (k + 1)) + 1 from by omega, List.replicate_succ]
  have e2 : fs.take (k + 1) ++ List.replicate (no - (k + 1)) ((false, 0, 0) : Bool × Int × Int) = fs.take k ++ fs[k] :: List.replicate (no - (k + 1)) (false, 0, 0) := by
    rw [List.take_succ_eq_append_getElem hk, List.append_assoc]; rfl
  have hlk : (fs.take k).length = k := by simp; omega
  have hp := frames_put (fs.take k) (List.replicate (no - (k + 1)) (false, 0, 0)) (false, 0, 0) fs[k]
  rw [hlk] at hp
  rw [e1, e2, hp]

theorem put3 {g i bw base m : Nat} {cs : Array Value} {wr : World} {x y z b o e v : Value} {xs : List Value} (hg : bw < g) (h : wr.heap[g]? = some (.cells cs 34 (0, 0))) (hW : Wr wr bw b o e) (hO : wr.ownsRow base 5 1 v m xs) :
    Wr (((wr.setCell ⟨g, i, none⟩ x).setCell ⟨g, i + 1, none⟩ y).setCell ⟨g, i + 2, none⟩ z) bw b o e ∧ (((wr.setCell ⟨g, i, none⟩ x).setCell ⟨g, i + 1, none⟩ y).setCell ⟨g, i + 2, none⟩ z).ownsRow base 5 1 v m xs ∧
      Below bw wr (((wr.setCell ⟨g, i, none⟩ x).setCell ⟨g, i + 1, none⟩ y).setCell ⟨g, i + 2, none⟩ z) := by
  have h1 := block_setCell (i := i) h x
  have h2 := block_setCell (i := i + 1) h1 y
  refine ⟨((hW.other (a := ⟨g, i, none⟩) (Nat.ne_of_lt hg) x).other (a := ⟨g, i + 1, none⟩) (Nat.ne_of_lt hg) y).other (a := ⟨g, i + 2, none⟩) (Nat.ne_of_lt hg) z, owns_frames (i := i + 2) h2 (owns_frames (i := i + 1) h1 (owns_frames (i := i) h hO)), ?_⟩
  exact (((Below.refl bw wr).setCell (p := ⟨g, i, none⟩) (Nat.le_of_lt hg) x).setCell (p := ⟨g, i + 1, none⟩) (Nat.le_of_lt hg) y).setCell (p := ⟨g, i + 2, none⟩) (Nat.le_of_lt hg) z

/-- The bytes that String leaves, by number. -/
theorem wrote {w : World} {base g N cap nb n : Nat} {fb fi : Nat → Int} {x y : Int} (hN : N = nb + 1 + 2 + n) (h : w.ownsRow base 5 1 (.slice (some ⟨g, 0, none⟩) N cap) N (cellsOf fb nb ++ [.int .u8 2] ++ (.int .u8 x :: .int .u8 y :: cellsOf fi n))) :
    (∀ j, j < nb → w.cell? ⟨g, j, none⟩ = some (.int .u8 (fb j))) ∧ w.cell? ⟨g, nb, none⟩ = some (.int .u8 2) ∧ w.cell? ⟨g, nb + 1, none⟩ = some (.int .u8 x) ∧ w.cell? ⟨g, nb + 2, none⟩ = some (.int .u8 y) ∧
      (∀ j, j < n → w.cell? ⟨g, nb + 3 + j, none⟩ = some (.int .u8 (fi j))) ∧ g < w.heap.size := by
  have hc := fun j hj => h.cellAt j hj
  have e : cellsOf fb nb ++ [Value.int .u8 2] ++ (.int .u8 x :: .int .u8 y :: cellsOf fi n) = cellsOf fb nb ++ (.int .u8 2 :: .int .u8 x :: .int .u8 y :: cellsOf fi n) := by simp
  rw [e] at hc
  refine ⟨fun j hj => ?_, ?_, ?_, ?_, fun j hj => ?_, (h.lt g rfl).2⟩
  · rw [hc j (by omega), List.getElem?_append_left (by rw [cellsOf_length]; exact hj)]; exact cellsOf_at fb nb j hj
  · rw [hc nb (by omega), List.getElem?_append_right (by rw [cellsOf_length]; omega), cellsOf_length]; simp
  · rw [hc (nb + 1) (by omega), List.getElem?_append_right (by rw [cellsOf_length]; omega), cellsOf_length]; simp
  · rw [hc (nb + 2) (by omega), List.getElem?_append_right (by rw [cellsOf_length]; omega), cellsOf_length]; simp
  · rw [hc (nb + 3 + j) (by omega), List.getElem?_append_right (by rw [cellsOf_length]; omega), cellsOf_length, show nb + 3 + j - nb = j + 1 + 1 + 1 from by omega]
    simpa using cellsOf_at fi n j hj

theorem some_iface {e : Value} (h : e = .nilIface ∨ ∃ p, e = .iface 38 (.pointer (some p))) : e = .nilIface ∨ ∃ u p, e = .iface u p := by
  rcases h with h | ⟨p, h⟩
  · exact .inl h
  · exact .inr ⟨38, _, h⟩

theorem u16_div (n : Nat) : IntKind.u16.wrap (n : Int) / 256 = (n : Int) % 65536 / 256 := by rw [IntKind.wrap_u16]
theorem u16_mod (n : Nat) : IntKind.u16.wrap (n : Int) % 256 = (n : Int) % 256 := by rw [IntKind.wrap_u16]; omega

theorem bump_at (fs : List (Bool × Int × Int)) (k : Nat) (hk : k < fs.length) :
    (bump fs)[k]? = some (if k + 1 = fs.length then bump1 fs[k] else fs[k]) := by
  rcases List.eq_nil_or_concat fs with rfl | ⟨l, f, rfl⟩
  · simp at hk
  · simp only [List.concat_eq_append] at hk ⊢
    simp only [List.length_append, List.length_cons, List.length_nil] at hk
    rw [bump_snoc]
    by_cases e : k = l.length
    · subst e; simp
    · have hlt : k < l.length := by omega
      rw [List.getElem?_append_left hlt, if_neg (by simp; omega)]
      simp [hlt]

/-- The Writer's frames behind String, by number. -/
theorem opn_at {bw no : Nat} {w : World} {ov : Value} {fs : List (Bool × Int × Int)} (h : Opn bw w ov (bump fs)) (hl : fs.length = no) :
    ∃ av cv, ov = .slice av no cv ∧ (0 < no → ∃ g, av = some ⟨g, 0, none⟩ ∧ g < w.heap.size ∧ ∀ k (hk : k < fs.length), ∃ c', w.cell? ⟨g, k * 3, none⟩ = some (.bool fs[k].1) ∧ w.cell? ⟨g, k * 3 + 1, none⟩ = some (.int .i64 fs[k].2.1) ∧ w.cell? ⟨g, k * 3 + 2, none⟩ = some (.int .u64 c') ∧
      (k + 1 < no → c' = fs[k].2.2) ∧ (k + 1 = no → fs[k].1 = true → c' = fs[k].2.2) ∧ (k + 1 = no → fs[k].1 = false → c' = IntKind.u64.wrap (fs[k].2.2 + 1))) := by
  rcases h with ⟨ao, hv, hf⟩ | ⟨g, hv, hg, hh⟩
  · have h0 : no = 0 := by rw [← hl, ← bump_length, hf]; rfl
    subst h0
    exact ⟨ao, 0, hv, fun h => absurd h (Nat.lt_irrefl _)⟩
  · rw [bump_length, hl] at hv
    refine ⟨_, _, hv, fun _ => ⟨g, rfl, (Array.getElem?_eq_some_iff.1 hh).1, fun k hk => ?_⟩⟩
    have hat := framesCells_at (bump fs) k (by rw [bump_length]; exact hk)
    have hb := bump_at fs k hk
    rw [List.getElem?_eq_getElem (by rw [bump_length]; exact hk)] at hb
    have hb2 := Option.some.inj hb
    rw [hb2] at hat
    have hc := fun i => (cell_of_block hh i).trans (by rw [List.getElem?_toArray])
    by_cases e : k + 1 = fs.length
    · rw [if_pos e] at hat
      refine ⟨(bump1 fs[k]).2.2, ?_, ?_, ?_, fun h => absurd h (by omega), fun _ h => by simp [bump1, h], fun _ h => by simp [bump1, h]⟩
      · rw [hc, hat.1]; unfold bump1; split <;> rfl
      · rw [hc, hat.2.1]; unfold bump1; split <;> rfl
      · rw [hc, hat.2.2]
    · rw [if_neg e] at hat
      exact ⟨fs[k].2.2, (hc _).trans hat.1, (hc _).trans hat.2.1, (hc _).trans hat.2.2, fun _ => rfl, fun h => absurd h (by omega), fun h => absurd h (by omega)⟩

theorem Ybaf.iface27 : Ybaf.prog.isIface 27 = true := by kernel_rfl
theorem Ybaf.comp38 : (Ybaf.prog.info? 38).map (·.comparable) = some true := by kernel_rfl
theorem Ybaf.size40 (w : World) : (sizeOf 40).run Ybaf.prog w = .ok 1 w := by kernel_rfl
theorem same_err (w : World) (a : Addr) : (binOp .neq 27 (.iface 38 (.pointer (some a))) (.iface 38 (.pointer (some a)))).run Ybaf.prog w = .ok (.bool false) w := by
  obtain ⟨i, hi, hc⟩ := Option.map_eq_some_iff.1 Ybaf.comp38
  have hi2 : (typeInfo 38).run Ybaf.prog w = .ok i w := run_typeInfo _ hi
  simp only [binOp]
  simp [Op.equal, Op.maxDepth, run_equalIn_iface_same w 9998 27 38 40 i 0 Ybaf.iface27 hi2 hc Ybaf.underlying38 (Ybaf.size40 w) a]

theorem neq23 (w : World) (a : Option Addr) (n c n' c' : Nat) : (binOp .neq 23 (.slice a n c) (.slice none n' c')).run Ybaf.prog w = .ok (.bool (!a.isNone)) w := run_neq_slice_nil_any w _ _ a n c n' c' Ybaf.underlying23

theorem mk_len (n : Nat) : Value.int .i64 (65536 + (n : Int)) = .int .i64 ((65536 + n : Nat) : Int) := by congr 1

set_option maxHeartbeats 4000000 in
set_option maxRecDepth 1000000 in
theorem law_main (F : Interp) (ab ao az : Option Addr) (nb cb no co ns cs : Nat) (fb fz : Nat → Int) (fs : List (Bool × Int × Int)) (had long : Bool) (w : World) (hF : F.answers w.tape)
    (hbuf : Src w.heap.size w ab nb cb (cellsOf fb nb)) (hopen : ArgOpen w ao no co fs) (hs : Src w.heap.size w az ns cs (cellsOf fz ns)) (hnb : nb ≤ 1048576) (hno : no ≤ 1048576) (hns : ns ≤ 1048576) :
    Calls Ybaf.prog 3 #[.slice ab nb cb, .slice ao no co, .bool had, .slice az ns cs, .bool long] w fun e w' => e = .returned (.bool true) ∧ Below w.heap.size w w' := by
  have HF := hid hF
  have HB := hid hbuf
  have HO := hid hopen
  have HS := hid hs
  clear hF hbuf hopen hs
  go_enter Ybaf.func3, Ybaf.ntmps3
  go_upto_if 41 with fail
  go_cut [11] from 27 to 64 (fun v11 w1 => ∃ n ai ci fi, v11 = .slice ai n ci ∧ n ≤ 1114112 ∧ Hid (Src w1.heap.size w1 ai n ci (cellsOf fi n) ∧ Below w.heap.size w w1 ∧ (long = false → n = ns ∧ fi = fz)))
  case first =>
    cases long with
    | false =>
      go_wp2
      go_meet
      case rel => exact ⟨ns, az, cs, fz, rfl, by omega, HS.out, Below.refl _ _, fun _ => ⟨rfl, rfl⟩⟩
    | true =>
      by_cases hz : ¬ 0 < ns
      · have hz' : ¬ (0 : Int) < (ns : Int) := by omega
        go_wp2_with (at_make; refine wpList_make_bytes _ rfl _ _ rfl (65536 + ns) (mk_len ns) (mk_len ns) (by omega) ?_)
        · intro w1 hb1 HG1
          have HB1 := hid hb1
          clear hb1
          go_wp2
          go_meet
          case rel => exact ⟨65536 + ns, _, _, fun _ => 0, rfl, by omega, src_row HG1.out (Array.getElem?_eq_some_iff.1 HG1.out).1, HB1.out, fun h => (nomatch h)⟩
      · have hz' : (0 : Int) < (ns : Int) := by omega
        obtain ⟨b, off, rfl, hblt, hc⟩ := HS.out.at (by omega)
        go_wp2_with (at_make; refine wpList_make_bytes _ rfl _ _ rfl (65536 + ns) (mk_len ns) (mk_len ns) (by omega) ?_)
        · intro w1 hb1 HG1
          have HB1 := hid hb1
          have HC := hid hc
          clear hb1 hc
          go_wp2
          go_loopw [51] (fun i wr => ∃ k : Nat, k ≤ 65536 + ns ∧ i = .int .i64 k ∧ Hid (Fill w wr (65536 + ns) ns k fz)) (fun i _ => 65536 + ns - (intOf i).toNat)
          case atStart => exact ⟨0, Nat.zero_le _, rfl, Fill.start HB1.out HG1.out⟩
          case round =>
            obtain ⟨k, hk, rfl, HI⟩ := hrel
            by_cases hlt : k < 65536 + ns
            · have hlt' : (k : Int) < 65536 + (ns : Int) := by omega
              obtain ⟨⟨old, hold⟩, hfr⟩ := HI.out.here hlt
              have hmod : k % ns < ns := Nat.mod_lt _ (by omega)
              have hcs : wr.cell? ⟨b, off + k % ns, none⟩ = some (.int .u8 (fz (k % ns))) := (HI.out.1.cell (p := ⟨b, off + k % ns, none⟩) hblt).trans (HC.out _ hmod)
              go_wp2
              go_roundw
              case rel => exact ⟨k + 1, by omega, by go_num, HI.out.next hlt⟩
              case measure => simp [intOf]; omega
            · obtain rfl : k = 65536 + ns := by omega
              go_wp2
              go_meet
              case rel => exact ⟨65536 + ns, _, _, fun i => fz (i % ns), rfl, by omega, src_row HI.out.done (Array.getElem?_eq_some_iff.1 HI.out.done).1, HI.out.1, fun h => (nomatch h)⟩
  case rest =>
    obtain ⟨n, ai, ci, fi, rfl, hn, HI⟩ := hcut
    have HL := hid HI.out.2.2
    have HSi := hid HI.out.1
    have HBw := hid HI.out.2.1
    clear HI
    have q22 := neq22
    go_upto_if 66 with fail
    go_cut [13] from 65 to 72 (fun v13 w2 => ∃ a2 c2, v13 = .slice a2 ns c2 ∧ Hid (Src w2.heap.size w2 a2 ns c2 (cellsOf fz ns) ∧ Src w2.heap.size w2 ai n ci (cellsOf fi n) ∧ Below w.heap.size w w2))
    case first =>
      have HSc := hid (HS.out.later HBw.out)
      cases az with
      | none =>
        obtain ⟨rfl, rfl⟩ := HS.out.2.2.1 rfl
        go_wp2
        go_meet
        case rel => exact ⟨none, 0, rfl, src_none, HSi.out, HBw.out⟩
      | some ad =>
        go_wp2_with (at_make; refine wpList_make_bytes _ rfl _ _ rfl ns rfl rfl (by omega) ?_)
        intro w2 hb2 HG2
        have HB2 := hid hb2
        clear hb2
        have HSd := hid (HSc.out.kept HB2.out)
        go_wp2_with (refine wpList_copy_bytes rfl (.tmp 70) (.tmp 71) rfl wc.heap.size ns cs wc.heap.size (some ad) rfl rfl (fun _ => 0) fz HG2.out HSd.out wc.heap.size wc HB2.out (Nat.le_refl _) ?_)
        intro w3 HG3 hb3
        have HB3 := hid hb3
        clear hb3
        go_wp2
        go_meet
        case rel => exact ⟨_, _, rfl, src_row HG3.out (Array.getElem?_eq_some_iff.1 HG3.out).1, HSi.out.later HB3.out, HBw.out.trans (HB3.out.mono HBw.out.size)⟩
    case rest =>
      clear HSi HBw
      obtain ⟨a2, c2, rfl, HI⟩ := hcut
      go_upto_if 73 with fail
      go_cut [14] from 73 to 80 (fun v14 w3 => ∃ a3 c3, v14 = .slice a3 n c3 ∧ Hid (Src w3.heap.size w3 a2 ns c2 (cellsOf fz ns) ∧ Src w3.heap.size w3 ai n ci (cellsOf fi n) ∧ Src w3.heap.size w3 a3 n c3 (cellsOf fi n) ∧ Below w.heap.size w w3))
      case first =>
        have HSi := hid HI.out.2.1
        have HSs := hid HI.out.1
        have HBw := hid HI.out.2.2
        clear HI
        cases long with
        | false =>
          obtain ⟨rfl, rfl⟩ := HL.out rfl
          go_wp2
          go_meet
          case rel => exact ⟨_, _, rfl, HSs.out, HSi.out, HSs.out, HBw.out⟩
        | true =>
          go_wp2_with (at_make; refine wpList_make_bytes _ rfl _ _ rfl n rfl rfl (by omega) ?_)
          intro w2 hb2 HG2
          have HB2 := hid hb2
          clear hb2
          have HSd := hid (HSi.out.kept HB2.out)
          go_wp2_with (refine wpList_copy_bytes rfl (.tmp 77) (.tmp 78) rfl wc.heap.size n ci wc.heap.size ai rfl rfl (fun _ => 0) fi HG2.out HSd.out wc.heap.size wc HB2.out (Nat.le_refl _) ?_)
          intro w3 HG3 hb3
          have HB3 := hid hb3
          clear hb3
          go_wp2
          go_meet
          case rel => exact ⟨_, _, rfl, HSs.out.later HB3.out, HSi.out.later HB3.out, src_row HG3.out (Array.getElem?_eq_some_iff.1 HG3.out).1, HBw.out.trans (HB3.out.mono HBw.out.size)⟩
      case rest =>
        clear HL HI
        obtain ⟨a3, c3, rfl, HI⟩ := hcut
        have HBuf := hid (HB.out.later HI.out.2.2.2)
        obtain ⟨bw, hbw⟩ : ∃ bw, wc.heap.size = bw := ⟨_, rfl⟩
        have HBW := hid hbw
        have HBase : Hid (Base w bw ns c2 n ci c3 a2 ai a3 fz fi wc) := by
          rw [← hbw]; exact ⟨HI.out.1, HI.out.2.1, HI.out.2.2.1, HI.out.2.2.2, HI.out.2.2.2.size⟩
        clear hbw HI
        go_upto_if 84 with fail
        go_cut [15] from 81 to 96 (fun v15 w4 => v15 = .pointer (some ⟨bw, 0, none⟩) ∧ Hid (∃ bufv, Wr w4 bw bufv (.slice none 0 0) .nilIface ∧ w4.ownsRow (bw + 1) 5 1 bufv nb (cellsOf fb nb) ∧ Base w bw ns c2 n ci c3 a2 ai a3 fz fi w4))
        case first =>
          have hW0 := wr_new wc (.slice none 0 0) (.slice none 0 0) .nilIface
          have HW0 := hid hW0
          have hb0 : Below wc.heap.size wc (wc.alloc (.cells #[.slice none 0 0, .slice none 0 0, .nilIface] 29)) := (Below.refl _ _).alloc (Nat.le_refl _) _
          have Hb0 := hid hb0
          clear hW0 hb0
          have e0 : Hid (Value.pointer (some ⟨wc.heap.size, 0, none⟩) = .pointer (some ⟨bw, 0, none⟩)) := by rw [HBW.out]; rfl
          cases ab with
          | none =>
            obtain ⟨rfl, rfl⟩ := HB.out.2.2.1 rfl
            go_wp2
            go_meet
            case rel =>
              refine ⟨e0.out, .slice none 0 0, ?_, World.ownsRow_nil _ _ _ _, HBase.out.step ?_⟩
              · rw [← HBW.out]; exact HW0.out
              · rw [← HBW.out]; exact Hb0.out
          | some ad =>
            go_wp2_with (at_make; refine wpList_make_bytes _ rfl _ _ rfl nb rfl rfl (by omega) ?_)
            intro w2 hb2 HG2
            have hW2 := HW0.out.below hb2 (Nat.lt_succ_self _)
            have h0 := hW2.c0
            have hf := hW2.fr 0
            have HW3 := hid (hW2.set0 (.slice (some ⟨wc.heap.size + 1, 0, none⟩) nb nb))
            have HG3 := hid (row_set (i := 0) HG2.out (Nat.succ_ne_self wc.heap.size) (.slice (some ⟨wc.heap.size + 1, 0, none⟩) nb nb))
            have HB3 := hid ((Hb0.out.trans (hb2.mono (Nat.le_succ _))).setCell (p := ⟨wc.heap.size, 0, none⟩) (Nat.le_refl _) (.slice (some ⟨wc.heap.size + 1, 0, none⟩) nb nb))
            have HS3 := hid (HBuf.out.kept HB3.out)
            clear hb2 hW2 HG2
            go_wp2_with (refine wpList_copy_bytes rfl (.tmp 94) (.tmp 95) rfl (wc.heap.size + 1) nb cb wc.heap.size (some ad) rfl rfl (fun _ => 0) fb HG3.out HS3.out (wc.heap.size + 1) _ (Below.refl _ _) (Nat.le_refl _) ?_)
            intro w4 HG4 hb4
            have HB4 := hid hb4
            clear hb4
            go_wp2
            go_meet
            case rel =>
              refine ⟨e0.out, .slice (some ⟨wc.heap.size + 1, 0, none⟩) nb nb, ?_, ?_, HBase.out.step ?_⟩
              · rw [← HBW.out]; exact HW3.out.below HB4.out (Nat.lt_succ_self _)
              · rw [← HBW.out]; exact owns_of_row HG4.out (Nat.le_refl _) (by omega)
              · rw [← HBW.out]; exact HB3.out.trans (HB4.out.mono (Nat.le_succ _))
        case rest =>
          clear HBase HBuf
          obtain ⟨rfl, HI⟩ := hcut
          clear HBW q22
          have q23 := neq23
          go_upto_if 98 with fail
          go_cut [] from 97 to 132 (fun w5 => Hid (∃ bufv ov, Wr w5 bw bufv ov .nilIface ∧ w5.ownsRow (bw + 1) 5 1 bufv nb (cellsOf fb nb) ∧ Opn bw w5 ov fs ∧ Base w bw ns c2 n ci c3 a2 ai a3 fz fi w5))
          case first =>
            obtain ⟨bufv, hW4, hO4, hB4⟩ := HI.out
            have HW4 := hid hW4
            have HO4 := hid hO4
            have HB4 := hid hB4
            clear hW4 hO4 hB4 HI
            cases ao with
            | none =>
              obtain ⟨rfl, rfl⟩ := HO.out.2.1 rfl
              go_wp2
              go_meet
              case rel =>
                exact ⟨bufv, .slice none 0 0, HW4.out, HO4.out, .inl ⟨none, rfl, List.eq_nil_of_length_eq_zero HO.out.1⟩, HB4.out⟩
            | some ad =>
              go_wp2_with (at_make; refine wpList_make_frames _ rfl _ _ rfl no rfl rfl (by omega) ?_)
              intro w5 hb5 HG5
              have hW5 := HW4.out.below hb5 HW4.out.lt
              have h1 := hW5.c1
              have hf := hW5.fr 1
              have HW6 := hid (hW5.set1 (.slice (some ⟨wc.heap.size, 0, none⟩) no no))
              have HO6 := hid (owns_set (i := 1) (u := .slice (some ⟨wc.heap.size, 0, none⟩) no no) hW5 (owns_below HO4.out hb5))
              have HG6 : Hid (Laid wc.heap.size no 0 fs (w5.setCell ⟨bw, 1, none⟩ (.slice (some ⟨wc.heap.size, 0, none⟩) no no))) := row_set (i := 1) HG5.out (Nat.ne_of_gt HW4.out.lt) _
              have HB6 := hid ((HB4.out.step (hb5.mono (Nat.le_of_lt HW4.out.lt))).step ((Below.refl bw w5).setCell (p := ⟨bw, 1, none⟩) (Nat.le_refl _) (.slice (some ⟨wc.heap.size, 0, none⟩) no no)))
              have hbg : bw < wc.heap.size := HW4.out.lt
              clear hb5 hW5 HG5 HW4 HO4 HB4
              go_wp2
              clear h1 hf
              go_loopw [16] (fun i wr => ∃ k : Nat, k ≤ no ∧ i = .int .i64 k ∧ Hid (Laid wc.heap.size no k fs wr ∧ Wr wr bw bufv (.slice (some ⟨wc.heap.size, 0, none⟩) no no) .nilIface ∧ wr.ownsRow (bw + 1) 5 1 bufv nb (cellsOf fb nb) ∧ Base w bw ns c2 n ci c3 a2 ai a3 fz fi wr)) (fun i _ => no - (intOf i).toNat)
              case atStart => exact ⟨0, Nat.zero_le _, rfl, HG6.out, HW6.out, HO6.out, HB6.out⟩
              case round =>
                clear HG6 HW6 HO6 HB6
                obtain ⟨k, hk, rfl, HI⟩ := hrel
                by_cases hlt : k < no
                · have hlt' : (k : Int) < (no : Int) := by omega
                  have hlf : k < fs.length := by rw [HO.out.1]; exact hlt
                  obtain ⟨b, off, hadr, hblt, hcell⟩ := HO.out.2.2 (by omega)
                  cases hadr
                  obtain ⟨hc0, hc1, hc2⟩ := hcell k hlf
                  have c0 := (HI.out.2.2.2.2.2.2.1.cell (p := ⟨b, off + k * 3, none⟩) hblt).trans hc0
                  have c1 := (HI.out.2.2.2.2.2.2.1.cell (p := ⟨b, off + k * 3 + 1, none⟩) hblt).trans hc1
                  have c2' := (HI.out.2.2.2.2.2.2.1.cell (p := ⟨b, off + k * 3 + 2, none⟩) hblt).trans hc2
                  obtain ⟨x, y, z, hx, hy, hz⟩ := HI.out.1.here HO.out.1 hlt
                  have f0 := unfrozen_of_block HI.out.1 (k * 3)
                  have f1 := unfrozen_of_block HI.out.1 (k * 3 + 1)
                  have f2 := unfrozen_of_block HI.out.1 (k * 3 + 2)
                  have h1 := HI.out.2.1.c1
                  clear hcell hc0 hc1 hc2
                  go_wp2
                  go_region
                  go_wp2
                  go_roundw
                  case rel =>
                    have P := put3 (i := k * 3) (x := .bool fs[k].1) (y := .int .i64 fs[k].2.1) (z := .int .u64 fs[k].2.2) hbg HI.out.1 HI.out.2.1 HI.out.2.2.1
                    exact ⟨k + 1, by omega, by go_num, HI.out.1.next HO.out.1 hlf, P.1, P.2.1, HI.out.2.2.2.step P.2.2.drew⟩
                  case measure => simp [intOf]; omega
                · obtain rfl : k = no := by omega
                  go_wp2
                  go_meet
                  case rel =>
                    refine ⟨bufv, _, HI.out.2.1, HI.out.2.2.1, .inr ⟨wc.heap.size, ?_, hbg, ?_⟩, HI.out.2.2.2⟩
                    · rw [HO.out.1]
                    · have := HI.out.1
                      rw [Laid, Nat.sub_self, List.take_of_length_le (by rw [HO.out.1]; exact Nat.le_refl _)] at this
                      simpa using this
          case rest =>
            clear HI q23
            have HI := hcut
            clear hcut
            go_upto_if 133 with fail
            go_cut [17] from 133 to 138 (fun v17 w6 => ∃ e, v17 = e ∧ (e = .nilIface ∨ ∃ p, e = .iface 38 (.pointer (some p))) ∧ Hid ((had = false → e = .nilIface) ∧ (had = true → e ≠ .nilIface) ∧ ∃ bufv ov, Wr w6 bw bufv ov e ∧ w6.ownsRow (bw + 1) 5 1 bufv nb (cellsOf fb nb) ∧ Opn bw w6 ov fs ∧ Base w bw ns c2 n ci c3 a2 ai a3 fz fi w6))
            case first =>
              obtain ⟨bufv, ov, hW5, hO5, hP5, hB5⟩ := HI.out
              cases had with
              | false =>
                go_wp2
                go_meet
                case rel => exact ⟨.nilIface, rfl, .inl rfl, fun _ => rfl, fun h => (nomatch h), bufv, ov, hW5, hO5, hP5, hB5⟩
              | true =>
                have HW5 := hid hW5
                have HO5 := hid hO5
                have HP5 := hid hP5
                have HB5 := hid hB5
                clear hW5 hO5 hP5 hB5 HI
                go_wp2_with fail
                refine (new_any _ _).mono ?_
                rintro r w6 ⟨rfl, rfl⟩
                have hK6 := (Kept.refl bw wc).alloc (Nat.le_of_lt HW5.out.lt) (.cells #[.string ⟨#[101, 97, 114, 108, 105, 101, 114, 32, 114, 101, 102, 117, 115, 97, 108]⟩] 40)
                have hW6 := HW5.out.alloc (.cells #[.string ⟨#[101, 97, 114, 108, 105, 101, 114, 32, 114, 101, 102, 117, 115, 97, 108]⟩] 40)
                have hO6 := HO5.out.alloc (.cells #[.string ⟨#[101, 97, 114, 108, 105, 101, 114, 32, 114, 101, 102, 117, 115, 97, 108]⟩] 40)
                have h2 := hW6.c2
                have hf := hW6.fr 2
                have HW7 := hid (hW6.set2 (.iface 38 (.pointer (some ⟨wc.heap.size, 0, none⟩))))
                have HO7 := hid (owns_set (i := 2) (u := .iface 38 (.pointer (some ⟨wc.heap.size, 0, none⟩))) hW6 hO6)
                have HK7 := hid (hK6.set (i := 2) hW6 (.iface 38 (.pointer (some ⟨wc.heap.size, 0, none⟩))))
                clear hK6 hW6 hO6
                go_wp2
                go_meet
                case rel => exact ⟨_, rfl, .inr ⟨_, rfl⟩, fun h => (nomatch h), fun _ h => (nomatch h), bufv, ov, HW7.out, HO7.out, HP5.out.kept HK7.out, HB5.out.step HK7.out.below⟩
            case rest =>
              clear HI
              obtain ⟨e, rfl, he, HI⟩ := hcut
              obtain ⟨he1, he2, bufv, ov, hW6, hO6, hP6, hB6⟩ := HI.out
              have HE1 := hid he1
              have HE2 := hid he2
              have HEe := hid he
              have HW6 := hid hW6
              have HO6 := hid hO6
              have HP6 := hid hP6
              have HB6 := hid hB6
              have HF6 : Hid (F.answers wc.tape) := by rw [Hid, hB6.2.2.2.1.tape]; exact HF.out
              have hl : Hid (fs.length ≤ 1048576) := by rw [Hid, HO.out.1]; exact hno
              clear he1 he2 he hW6 hO6 hP6 hB6 HI HF
              go_wp2_with fail
              refine (string_any F bw n nb ci bufv ov u17 fs ai (cellsOf fb nb) (cellsOf fi n) _ HF6.out HW6.out (some_iface HEe.out) HO6.out HP6.out hl.out HB6.out.2.1 (by omega) (by omega)).mono ?_
              rintro r w7 ⟨rfl, g', cap', e', hW7, hO7, hE7, hP7, hb7⟩
              obtain ⟨hr1, hr2, hr3, hr4, hr5, hg⟩ := wrote rfl hO7
              have HR1 := hid hr1
              have HR2 := hid hr2
              have HR3 := hid hr3
              have HR4 := hid hr4
              have HR5 := hid hr5
              have HG := hid hg
              have HW7 := hid hW7
              have HE7 := hid hE7
              have HP7 := hid hP7
              have HB7 := hid (HB6.out.step hb7)
              clear hr1 hr2 hr3 hr4 hr5 hg hO7 hE7 hP7 hb7 HW6 HO6 HP6 HB6 HF6 hl
              have h0 := hW7.c0
              have hbl : bw < w7.heap.size := hW7.lt
              clear hW7
              have HBt := hid HB7.out.2.2.2.1
              have hwl : w.heap.size ≤ w7.heap.size := HBt.out.size
              go_wp2
              clear h0
              go_loopw [19] (fun i wr => ∃ k : Nat, k ≤ nb ∧ i = .int .i64 k ∧ Hid (Below w7.heap.size w7 wr)) (fun i _ => nb - (intOf i).toNat)
              case atStart => exact ⟨0, Nat.zero_le _, rfl, Below.refl _ _⟩
              case round =>
                obtain ⟨k, hk, rfl, HI⟩ := hrel
                have c0 := (HI.out.cell (p := ⟨bw, 0, none⟩) hbl).trans HW7.out.c0
                by_cases hlt : k < nb
                · have hlt' : (k : Int) < (nb : Int) := by omega
                  have hlt2 : (k : Int) < (nb : Int) + 1 + 2 + (n : Int) := by omega
                  obtain ⟨b, off, rfl, hblt, hcell⟩ := HB.out.at (by omega)
                  have c1 := (HI.out.cell (p := ⟨b, off + k, none⟩) (Nat.lt_of_lt_of_le hblt hwl)).trans ((HBt.out.cell (p := ⟨b, off + k, none⟩) hblt).trans (hcell k hlt))
                  have c2 := (HI.out.cell (p := ⟨g', k, none⟩) HG.out).trans (HR1.out k hlt)
                  clear hcell
                  go_wp2
                  go_quiet (fail)
                  go_wp2
                  go_roundw
                  case rel => exact ⟨k + 1, by omega, by go_num, below_drewN HI.out _⟩
                  case measure => simp [intOf]; omega
                · have c2 := (HI.out.cell (p := ⟨g', nb, none⟩) HG.out).trans HR2.out
                  have c3 := (HI.out.cell (p := ⟨g', nb + 1, none⟩) HG.out).trans HR3.out
                  have c4 := (HI.out.cell (p := ⟨g', nb + 2, none⟩) HG.out).trans HR4.out
                  rw [u16_div] at c3
                  rw [u16_mod] at c4
                  have l0 : (nb : Int) < (nb : Int) + 1 + 2 + (n : Int) := by omega
                  have l1 : (nb : Int) + 1 < (nb : Int) + 1 + 2 + (n : Int) := by omega
                  have l2 : (nb : Int) + 2 < (nb : Int) + 1 + 2 + (n : Int) := by omega
                  clear HR1 HR2 HR3 HR4
                  go_wp2
                  clear l0 l1 l2 c2 c3 c4 c0
                  go_loopw [21] (fun i wr => ∃ k : Nat, k ≤ n ∧ i = .int .i64 k ∧ Hid (Below w7.heap.size w7 wr)) (fun i _ => n - (intOf i).toNat)
                  case atStart => exact ⟨0, Nat.zero_le _, rfl, HI.out⟩
                  case round =>
                    clear HI
                    obtain ⟨q, hq, rfl, HI⟩ := hrel
                    have c0 := (HI.out.cell (p := ⟨bw, 0, none⟩) hbl).trans HW7.out.c0
                    by_cases hqt : q < n
                    · have hqt' : (q : Int) < (n : Int) := by omega
                      have hqt2 : (nb : Int) + 3 + (q : Int) < (nb : Int) + 1 + 2 + (n : Int) := by omega
                      have hqt3 : (0 : Int) ≤ (nb : Int) + 3 + (q : Int) := by omega
                      have hqt4 : ((nb : Int) + 3 + (q : Int)).toNat = nb + 3 + q := by omega
                      have w1 : IntKind.i64.wrap ((nb : Int) + 3) = (nb : Int) + 3 := IntWalk.i64_in _ ⟨by omega, by omega⟩
                      have w2 : IntKind.i64.wrap ((nb : Int) + 3 + (q : Int)) = (nb : Int) + 3 + (q : Int) := IntWalk.i64_in _ ⟨by omega, by omega⟩
                      obtain ⟨b, off, rfl, hblt, hcell⟩ := HB7.out.2.2.1.at (by omega)
                      have c1 := (HI.out.cell (p := ⟨b, off + q, none⟩) (Nat.lt_trans hblt hbl)).trans (hcell q hqt)
                      have c2' := (HI.out.cell (p := ⟨g', nb + 3 + q, none⟩) HG.out).trans (HR5.out q hqt)
                      clear hcell
                      go_wp2
                      go_quiet (fail)
                      go_wp2
                      go_roundw
                      case rel => exact ⟨q + 1, by omega, by go_num, below_drewN HI.out _⟩
                      case measure => simp [intOf]; omega
                    · have c1 := (HI.out.cell (p := ⟨bw, 1, none⟩) hbl).trans HW7.out.c1
                      obtain ⟨av, cv, hov, hfr⟩ := opn_at HP7.out HO.out.1
                      rw [hov] at c1
                      have HFR := hid hfr
                      have HOV := hid hov
                      clear hfr hov HR5 HG HP7
                      go_wp2
                      clear c0 c1
                      go_loopw [22] (fun i wr => ∃ k : Nat, k ≤ no ∧ i = .int .i64 k ∧ Hid (Below w7.heap.size w7 wr)) (fun i _ => no - (intOf i).toNat)
                      case atStart => exact ⟨0, Nat.zero_le _, rfl, HI.out⟩
                      case round =>
                        clear HI
                        obtain ⟨p, hp, rfl, HI⟩ := hrel
                        by_cases hpt : p < no
                        · have hpt' : (p : Int) < (no : Int) := by omega
                          have hpf : p < fs.length := by rw [HO.out.1]; exact hpt
                          obtain ⟨b, off, rfl, hblt, hcell⟩ := HO.out.2.2 (by omega)
                          obtain ⟨g7, rfl, hg7, hcf⟩ := HFR.out (by omega)
                          obtain ⟨ha0, ha1, ha2⟩ := hcell p hpf
                          obtain ⟨cnt, hf0, hf1, hf2, hq1, hq2, hq3⟩ := hcf p hpf
                          have hwr : ∀ o, w.cell? ⟨b, o, none⟩ = wr.cell? ⟨b, o, none⟩ := fun o => ((HI.out.cell (p := ⟨b, o, none⟩) (Nat.lt_of_lt_of_le hblt hwl)).trans (HBt.out.cell (p := ⟨b, o, none⟩) hblt)).symm
                          rw [hwr] at ha0 ha1 ha2
                          have hw7 : ∀ o, w7.cell? ⟨g7, o, none⟩ = wr.cell? ⟨g7, o, none⟩ := fun o => (HI.out.cell (p := ⟨g7, o, none⟩) hg7).symm
                          rw [hw7] at hf0 hf1 hf2
                          have c1 := (HI.out.cell (p := ⟨bw, 1, none⟩) hbl).trans HW7.out.c1
                          rw [HOV.out] at c1
                          clear hwr hw7 hcell hcf
                          generalize fs[p] = fr at ha0 ha1 ha2 hf0 hf1 hf2 hq1 hq2 hq3
                          obtain ⟨kd, fa, fc⟩ := fr
                          simp only at ha0 ha1 ha2 hf0 hf1 hf2 hq1 hq2 hq3
                          have hlz : w7.heap.size ≤ wr.heap.size := HI.out.size
                          have n1 : b < wr.heap.size := by omega
                          have n2 : g7 < wr.heap.size := by omega
                          by_cases hlast : p + 1 < no
                          · obtain rfl := hq1 hlast
                            have t1 : ((p : Int) == (no : Int) - 1) = false := by simp; omega
                            clear hq1 hq2 hq3
                            go_wp2
                            go_quiet (fail)
                            go_wp2
                            go_roundw
                            case rel => exact ⟨p + 1, by omega, by go_num, below_drewN (HI.out.alloc hlz _) _⟩
                            case measure => simp [intOf]; omega
                          · have t1 : ((p : Int) == (no : Int) - 1) = true := by simp; omega
                            cases kd with
                            | true =>
                              obtain rfl := hq2 (by omega) rfl
                              clear hq1 hq2 hq3
                              go_wp2
                              go_quiet (fail)
                              go_wp2
                              go_roundw
                              case rel => exact ⟨p + 1, by omega, by go_num, below_drewN (HI.out.alloc hlz _) _⟩
                              case measure => simp [intOf]; omega
                            | false =>
                              obtain rfl := hq3 (by omega) rfl
                              clear hq1 hq2 hq3
                              go_wp2
                              go_quiet (fail)
                              go_wp2
                              go_roundw
                              case rel => exact ⟨p + 1, by omega, by go_num, below_drewN (HI.out.alloc hlz _) _⟩
                              case measure => simp [intOf]; omega
                        · go_upto_if 300 with fail
                          go_cut [154, 210] from 300 to 318 (fun _ _ w8 => Hid (Below w7.heap.size w7 w8))
                          case first =>
                            have c2' := (HI.out.cell (p := ⟨bw, 2, none⟩) hbl).trans HW7.out.c2
                            cases had with
                            | true =>
                              have k1 := same_err
                              rcases HEe.out with h | ⟨ad, h⟩
                              · exact absurd h (HE2.out rfl)
                              · have h8 := HE7.out.1 (HE2.out rfl)
                                rw [h8, h] at c2'
                                subst h
                                clear h8
                                go_wp2
                                go_meet
                                case rel => exact HI.out
                            | false =>
                              have h17 := HE1.out rfl
                              subst h17
                              by_cases hbig : 65535 < n
                              · have hbig' : (65535 : Int) < (n : Int) := by omega
                                obtain ⟨ad, h8⟩ := HE7.out.2.2 rfl hbig
                                rw [h8] at c2'
                                clear h8
                                go_wp2
                                go_meet
                                case rel => exact HI.out
                              · have hbig' : ¬ (65535 : Int) < (n : Int) := by omega
                                have h8 := HE7.out.2.1 rfl (by omega)
                                rw [h8] at c2'
                                clear h8
                                go_wp2
                                go_meet
                                case rel => exact HI.out
                          case rest =>
                            clear HI
                            have HI := hcut
                            clear hcut
                            go_wp2
                            go_loopw [25] (fun i wr => ∃ k : Nat, k ≤ ns ∧ i = .int .i64 k ∧ Hid (Below w7.heap.size w7 wr)) (fun i _ => ns - (intOf i).toNat)
                            case atStart => exact ⟨0, Nat.zero_le _, rfl, HI.out⟩
                            case round =>
                              clear HI
                              obtain ⟨m, hm, rfl, HI⟩ := hrel
                              by_cases hmt : m < ns
                              · have hmt' : (m : Int) < (ns : Int) := by omega
                                obtain ⟨b, off, rfl, hblt, hcell⟩ := HS.out.at (by omega)
                                have c1 := (HI.out.cell (p := ⟨b, off + m, none⟩) (Nat.lt_of_lt_of_le hblt hwl)).trans ((HBt.out.cell (p := ⟨b, off + m, none⟩) hblt).trans (hcell m hmt))
                                obtain ⟨b2, off2, rfl, hblt2, hcell2⟩ := HB7.out.1.at (by omega)
                                have c3' := (HI.out.cell (p := ⟨b2, off2 + m, none⟩) (Nat.lt_trans hblt2 hbl)).trans (hcell2 m hmt)
                                clear hcell hcell2
                                go_wp2
                                go_quiet (fail)
                                go_wp2
                                go_roundw
                                case rel => exact ⟨m + 1, by omega, by go_num, below_drewN HI.out _⟩
                                case measure => simp [intOf]; omega
                              · cases long with
                                | false =>
                                  go_wp2
                                  go_ret
                                  exact ⟨rfl, HBt.out.trans (HI.out.mono hwl)⟩
                                | true =>
                                  go_wp2
                                  go_loopw [26] (fun i wr => ∃ k : Nat, k ≤ n ∧ i = .int .i64 k ∧ Hid (Below w7.heap.size w7 wr)) (fun i _ => n - (intOf i).toNat)
                                  case atStart => exact ⟨0, Nat.zero_le _, rfl, HI.out⟩
                                  case round =>
                                    clear HI
                                    obtain ⟨j, hj, rfl, HI⟩ := hrel
                                    by_cases hjt : j < n
                                    · have hjt' : (j : Int) < (n : Int) := by omega
                                      obtain ⟨b, off, rfl, hblt, hcell⟩ := HB7.out.2.1.at (by omega)
                                      have c1 := (HI.out.cell (p := ⟨b, off + j, none⟩) (Nat.lt_trans hblt hbl)).trans (hcell j hjt)
                                      obtain ⟨b2, off2, rfl, hblt2, hcell2⟩ := HB7.out.2.2.1.at (by omega)
                                      have c3' := (HI.out.cell (p := ⟨b2, off2 + j, none⟩) (Nat.lt_trans hblt2 hbl)).trans (hcell2 j hjt)
                                      clear hcell hcell2
                                      go_wp2
                                      go_quiet (fail)
                                      go_wp2
                                      go_roundw
                                      case rel => exact ⟨j + 1, by omega, by go_num, below_drewN HI.out _⟩
                                      case measure => simp [intOf]; omega
                                    · go_wp2
                                      go_ret
                                      exact ⟨rfl, HBt.out.trans (HI.out.mono hwl)⟩
end Go.Proofs.YbulkeesqFmt
