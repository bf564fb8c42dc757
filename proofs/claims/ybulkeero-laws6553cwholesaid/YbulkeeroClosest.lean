/- The router's ClosestIDs (function 70). -/
import Derived.Test.YbulkeeroCall
namespace Go.Proofs.Ybulkeero
open Go.RowKit Go.Joins

/-- copy, elements of more than one cell. -/
theorem run_copy_wide {P : Program} (w : World) (dT sT ty elem : TypeId) (size : Nat) (b o dLen dCap : Nat) (a : Addr) (sLen sCap : Nat) (cs : List Value)
    (hu : P.underlying dT = some (.slice elem)) (hs : (P.info? elem).map (·.size) = some size) (hn : cs.length = Nat.min sLen dLen * size)
    (hsrc : ∀ j v, cs[j]? = some v → w.cell? (a.add j) = some v) (ht : w.there b o cs.length) (h1 : ∀ v ∈ cs, v.oneCell' = true) :
    (Builtin.copy_ #[dT, sT] ty #[.slice (some ⟨b, o, none⟩) dLen dCap, .slice (some a) sLen sCap]).run P w = .ok (goInt (Nat.min sLen dLen)) (w.setCells b o cs) := by
  have hl := run_loadCells_list (P := P) w a cs hsrc
  have hst := run_storeCells_cells (P := P) b o cs 0 w (fun j hj => by simpa using (ht j hj).1) (fun j hj => by simpa using (ht j hj).2) h1
  cases hq : P.info? elem with
  | none => simp [hq] at hs
  | some i =>
    have hi : i.size = size := by simpa [hq] using hs
    simp [Builtin.copy_, run_underlying hu, Builtin.lenOf, Builtin.firstCells, sizeOf, typeInfo, hq, hi, ← hn, hl, hst]
theorem wpList_copy_wide {P : Program} {w : World} {ops : Array Oper} {rest : List Oper} {o : Oper} {a : Act} {Q : Exit → Act → World → Prop} (hgd : o.guard = none) (d s : Operand) (dT sT : TypeId)
    (ho : o.op = .call { callee := .builtin .copy, args := #[d, s], argTypes := #[dT, sT] }) (elem : TypeId) (size : Nat) (hu : P.underlying dT = some (.slice elem)) (hsz : (P.info? elem).map (·.size) = some size)
    (g off dLen dCap : Nat) (ad : Addr) (sLen sCap : Nat) (hd : a.eval d = .slice (some ⟨g, off, none⟩) dLen dCap) (hs : a.eval s = .slice (some ad) sLen sCap) (cs : List Value) (hn : cs.length = Nat.min sLen dLen * size)
    (hsrc : ∀ j v, cs[j]? = some v → w.cell? (ad.add j) = some v) (ht : w.there g off cs.length) (h1 : ∀ v ∈ cs, v.oneCell' = true)
    (h : wpList P ops Q rest (a.put o.dst (goInt (Nat.min sLen dLen))) (w.setCells g off cs)) : wpList P ops Q (o :: rest) a w := by
  refine wpList_plain hgd fun K hK => ?_
  have hrun := run_copy_wide (P := P) w dT sT o.type elem size g off dLen dCap ad sLen sCap cs hu hsz hn hsrc ht h1
  unfold Oper.wp
  simp [execOp, ho, resolve, invoke, builtin, hd, hs, hrun, Result.andThen]
  exact hK _ _ h

theorem make28 (n : Nat) (hn : n ≤ 100000) : ∃ Z : Array Value, Z.size = n * 20 ∧ ∀ w : World, (Instr.makeSlice 28 (.int .i64 (n : Int)) (.int .i64 (n : Int))).run Yba.prog w = .ok (.slice (some ⟨w.heap.size, 0, none⟩) n n) (w.alloc (.cells Z 27)) := by
  obtain ⟨i, z, hi, hz, hs, hb, -⟩ := info_some Yba.row27
  refine ⟨madeCells z.cells (n * i.size), by rw [size_madeCells, hs], fun w => ?_⟩
  have := run_make (P := Yba.prog) w 28 27 i z Yba.underlying28 hi hz .i64 .i64 n n (by omega) (Int.le_refl _) (by rw [hb]; omega) (by omega)
  simpa only [Int.toNat_natCast] using this

/-- What ClosestIDs leaves. -/
structure ClosestTo (B rb : Nat) (idv : Value) (w : World) (s : Nat → Row) (key : List Int) (c n : Nat) (flat : List Int) (w' : World) (s' : Nat → Row) (ob : Nat) : Prop where
  moved : Moved B rb idv w s w' s'
  x1 : (s' 1).xs = (s 1).xs ++ by8 key
  n1 : (s' 1).n = (s 1).n + 1
  x2 : (s' 2).xs = (s 2).xs ++ [.int .i64 c]
  n2 : (s' 2).n = (s 2).n + 1
  rest : ∀ k, k ≠ 1 → k ≠ 2 → s' k = s k
  range : w'.rangeAt ob 0 (by8 (flat.take (n * 20)))
  new : w.heap.size ≤ ob ∧ ob < w'.heap.size
  apart : ∀ k, (s' k).val.ownBlock ≠ some ob

theorem by8_take {l : List Int} {n j : Nat} {v : Value} (h : (by8 (l.take n))[j]? = some v) : (by8 l)[j]? = some v := by
  unfold by8 at *
  rw [List.map_take] at h
  have hj := (List.getElem?_eq_some_iff.1 h).1
  rw [List.length_take] at hj
  rw [List.getElem?_take_of_lt (by omega)] at h
  exact h
theorem there_at {W : World} {ob n : Nat} (h : W.heap.size = ob) (Z : Array Value) (hZ : Z.size = n) : (W.alloc (.cells Z 27)).there ob 0 n := by
  subst h
  exact there_new W Z 27 n hZ

theorem closest_copy {W : World} {ob lb n sc : Nat} {flat : List Int} (hids : W.rangeAt lb 0 (by8 flat)) (hob : W.heap.size = ob) (Z : Array Value) (hZ : Z.size = n * 20) (hl : (flat.take (n * 20)).length = n * 20) :
    (Builtin.copy_ #[28, 28] 3 #[.slice (some ⟨ob, 0, none⟩) n n, .slice (some ⟨lb, 0, none⟩) n sc]).run Yba.prog (W.alloc (.cells Z 27)) = .ok (goInt n) ((W.alloc (.cells Z 27)).setCells ob 0 (by8 (flat.take (n * 20)))) := by
  have h := run_copy_wide (P := Yba.prog) (W.alloc (.cells Z 27)) 28 28 3 27 20 ob 0 n n ⟨lb, 0, none⟩ n sc (by8 (flat.take (n * 20))) Yba.underlying28 Yba.size27 (by rw [by8_length, hl]; simp) (fun j v hj => by rw [Addr.add_mid]; exact (World.rangeAt_alloc hids _) j v (by8_take hj)) (by rw [by8_length, hl]; exact there_at hob Z hZ) (by8_one _)
  rwa [show Nat.min n n = n from Nat.min_self n] at h

/-- Behind an append onto a row the router's own block stands as it was. -/
theorem RtAt.stay {B rb k : Nat} {idv : Value} {w w1 : World} {s : Nat → Row} (h : RtAt B rb idv w s) (hg : w.grownBy w1 (s k).val.ownBlock) : w1.heap[rb]? = some (.cells #[idv, (s 1).val, (s 2).val, (s 3).val, (s 4).val, (s 5).val, .int .i64 0] 33 (0, 0)) := by
  rw [hg.block rb h.rbLt (fun e => by have := ((h.own k).lt _ e.symm).1; have := h.lt; omega)]
  exact h.blk

/-- What the two appends of ClosestIDs leave. -/
structure ClosestMid (B rb : Nat) (idv : Value) (w : World) (s : Nat → Row) (key : List Int) (c : Nat) (w' : World) (s' : Nat → Row) : Prop where
  moved : Moved B rb idv w s w' s'
  x1 : (s' 1).xs = (s 1).xs ++ by8 key
  n1 : (s' 1).n = (s 1).n + 1
  x2 : (s' 2).xs = (s 2).xs ++ [.int .i64 c]
  n2 : (s' 2).n = (s 2).n + 1
  rest : ∀ k, k ≠ 1 → k ≠ 2 → s' k = s k

theorem closest_mid {B rb lb c g4 c4 : Nat} {idv : Value} {w w4 w5 : World} {s s4 : Nat → Row} {key flat : List Int} {a5 : Option Addr} {c5 : Nat} {o : Obj} (_h : RtAt B rb idv w s) (hlr : lb ≠ rb) (hlb : lb < B) (M4 : Moved B rb idv w s w4 s4) (h4 : ∀ k, k ≠ 1 → s4 k = s k) (h41 : s4 1 = ⟨some ⟨g4, 0, none⟩, (s 1).n + 1, c4, (s 1).xs ++ by8 key⟩)
    (hown5 : w5.ownsRow B 3 1 (.slice a5 ((s4 2).n + 1) c5) ((s4 2).n + 1) ((s4 2).xs ++ [.int .i64 c])) (hg5 : (w4.alloc o).grownBy w5 (Value.slice (s4 2).a (s4 2).n (s4 2).c).ownBlock) (hat5 : a5 = (s4 2).a ∨ ∃ g, a5 = some ⟨g, 0, none⟩ ∧ (w4.alloc o).heap.size ≤ g) (hids : w.rangeAt lb 0 (by8 flat)) :
    (ClosestMid B rb idv w s key c (w5.setCell ⟨rb, 2, none⟩ (.slice a5 ((s4 2).n + 1) c5)) (upd s4 2 ⟨a5, (s4 2).n + 1, c5, (s4 2).xs ++ [Value.int .i64 (c : Int)]⟩)) ∧ w5.cell? ⟨rb, 0, none⟩ = some idv ∧ w5.cell? ⟨rb, 2, none⟩ = some (.slice (s4 2).a (s4 2).n (s4 2).c) ∧ w5.frozen? ⟨rb, 2, none⟩ = false ∧
      (w5.setCell ⟨rb, 2, none⟩ (.slice a5 ((s4 2).n + 1) c5)).rangeAt lb 0 (by8 flat) ∧ (w5.setCell ⟨rb, 2, none⟩ (.slice a5 ((s4 2).n + 1) c5)).heap.size = w5.heap.size := by
  have M5 := (M4.alloc o).trans ((M4.alloc o).rt.app (k := 2) (by decide) (by decide) ⟨a5, (s4 2).n + 1, c5, (s4 2).xs ++ [Value.int .i64 (c : Int)]⟩ hg5 hown5 hat5)
  have hst := (M4.alloc o).rt.stay (k := 2) hg5
  refine ⟨⟨M5, ?_, ?_, ?_, ?_, ?_⟩, ?_, ?_, ?_, ?_, by simp [World.setCell]⟩
  · rw [upd_other _ _ (by decide), h41]
  · rw [upd_other _ _ (by decide), h41]
  · rw [upd_same, h4 2 (by decide)]
  · rw [upd_same, h4 2 (by decide)]
  · intro k h1 h2; rw [upd_other _ _ h2, h4 k h1]
  · rw [cell_of_block hst]; rfl
  · rw [cell_of_block hst]; rfl
  · exact unfrozen_of_block hst _
  · intro j v hj
    exact M5.fr.cell (hids j v hj) (by
      rintro (e | ⟨k, e⟩)
      · exact hlr e
      · have := ((_h.own k).lt _ e).1
        simp only at this
        omega)

theorem closest_done {B rb c n : Nat} {idv : Value} {w W : World} {s s5 : Nat → Row} {key : List Int} {flat : List Int} (h : RtAt B rb idv w s) (H : ClosestMid B rb idv w s key c W s5) {ob : Nat} (hob : W.heap.size = ob) (Z : Array Value) (hZ : Z.size = n * 20) (hl : (flat.take (n * 20)).length = n * 20) :
    ClosestTo B rb idv w s key c n flat ((W.alloc (.cells Z 27)).setCells ob 0 (by8 (flat.take (n * 20)))) s5 ob := by
  subst hob
  have hth : (W.alloc (.cells Z 27)).there W.heap.size 0 (by8 (flat.take (n * 20))).length := by rw [by8_length, hl]; exact there_new W Z 27 _ hZ
  have hg := grown_setCells (W.alloc (.cells Z 27)) W.heap.size 0 (by8 (flat.take (n * 20)))
  have hap : ∀ k, (s5 k).val.ownBlock ≠ some W.heap.size := fun k e => by have := ((H.moved.rt.own k).lt _ e).2; omega
  refine ⟨(H.moved.alloc (.cells Z 27)).poke hg h.rbLt H.moved.fr.size hap, H.x1, H.n1, H.x2, H.n2, H.rest, World.rangeAt_setCells_same _ _ _ _ hth, ⟨H.moved.fr.size, ?_⟩, hap⟩
  have := hg.size
  simp at this
  omega

theorem closest_start (B rb : Nat) (idv : Value) (w : World) (s : Nat → Row) (id : List Int) (h : RtAt B rb idv w s) :
    Moved B rb idv w s (w.alloc (.cells (by8 id).toArray 27)).drew s ∧ AppS rb 1 (.slice (s 1).a (s 1).n (s 1).c) w.heap.size id (w.alloc (.cells (by8 id).toArray 27)).drew := by
  have M := ((Moved.refl h).alloc (.cells (by8 id).toArray 27)).drew
  exact ⟨M, M.rt.cell.2.1, (World.rangeAt_drew _ _ _ _).2 (range_new w (by8 id) 27)⟩

set_option maxHeartbeats 2000000 in
set_option maxRecDepth 20000 in
theorem closest_any (B rb lb m : Nat) (w : World) (s : Nat → Row) (key flat : List Int) (c n : Nat) (h : RtAt B rb (.slice (some ⟨lb, 0, none⟩) m m) w s) (hl : key.length = 20) (hn1 : (s 1).n ≤ 1000) (hn2 : (s 2).n ≤ 1000) (hm : m ≤ 65536) (hc : c ≤ 1000) (hnn : n = min c m)
    (hlb : lb < B) (hlr : lb ≠ rb) (hfl : flat.length = m * 20) (hids : w.rangeAt lb 0 (by8 flat)) :
    Calls Yba.prog 70 #[.pointer (some ⟨rb, 0, none⟩), .agg (by8 key).toArray, .int .i64 (c : Int)] w fun e w' => ∃ s' ob, e = .returned (.slice (some ⟨ob, 0, none⟩) n n) ∧ ClosestTo B rb (.slice (some ⟨lb, 0, none⟩) m m) w s key c n flat w' s' ob := by
  have HR := hid h
  have HI := hid hids
  clear h hids
  go_enter Yba.func70, Yba.ntmps70
  go_wp2
  rename_i K0 hK0
  have HS := hid (closest_start B rb (.slice (some ⟨lb, 0, none⟩) m m) w s key HR.out)
  have hg1 : w.grownBy (w.alloc (.cells (by8 key).toArray 27)).drew none := grown_trans (grown_alloc _ _ _) (grown_drew _)
  generalize hw1 : (w.alloc (.cells (by8 key).toArray 27)) = w1 at *
  clear hw1
  refine beginE [10] (AppS rb 1 (.slice (s 1).a (s 1).n (s 1).c) w.heap.size key) (by kernel_rfl) HS.out.2 (fun hHeld => ?_)
  refine takeE 0 { dst := some 9, op := Op.move (Operand.tmp 0), type := 29, pos := "zz_law_s6553a.go:40", after := #[], guard := none } (.pointer (some ⟨rb, 0, none⟩)) rfl (by kernel_rfl) (by kernel_rfl) (by kernel_rfl) (by kernel_rfl) (fun _ _ _ h => h) (Or.inl ⟨by rfl, by intro w hSw; clear hSw; go_simp⟩) hHeld ?_
  simp only [Act.put, List.setIfInBounds_toArray, List.set_cons_zero, List.set_cons_succ]
  refine takeE 1 { dst := some 10, op := Op.move (Operand.tmp 0), type := 29, pos := "zz_law_s6553a.go:40", after := #[], guard := none } (.pointer (some ⟨rb, 0, none⟩)) rfl (by kernel_rfl) (by kernel_rfl) (by kernel_rfl) (by kernel_rfl) (fun _ _ _ h => h) (Or.inl ⟨by rfl, by intro w hSw; clear hSw; go_simp⟩) hHeld ?_
  simp only [Act.put, List.setIfInBounds_toArray, List.set_cons_zero, List.set_cons_succ]
  refine takeE 2 { dst := some 11, op := Op.nilCheck (Operand.tmp 10), type := 0, pos := "zz_law_s6553a.go:40", after := #[{ on := 1, ground := Ground.data }], guard := none } (.pointer (some ⟨rb, 0, none⟩)) rfl (by kernel_rfl) (by kernel_rfl) (by kernel_rfl) (by kernel_rfl) (fun _ _ _ h => h) (Or.inl ⟨by rfl, by intro w hSw; clear hSw; go_simp⟩) hHeld ?_
  simp only [Act.put, List.setIfInBounds_toArray, List.set_cons_zero, List.set_cons_succ]
  refine takeE 3 { dst := some 12, op := Op.fieldAddr 33 (Operand.tmp 11) 1, type := 0, pos := "zz_law_s6553a.go:40", after := #[{ on := 2, ground := Ground.data }], guard := none } (.pointer (some ⟨rb, 1, none⟩)) rfl (by kernel_rfl) (by kernel_rfl) (by kernel_rfl) (by kernel_rfl) (fun _ _ _ h => h) (Or.inl ⟨by rfl, by intro w hSw; clear hSw; go_simp⟩) hHeld ?_
  simp only [Act.put, List.setIfInBounds_toArray, List.set_cons_zero, List.set_cons_succ]
  refine takeE 4 { dst := some 13, op := Op.load 28 (Operand.tmp 12), type := 28, pos := "zz_law_s6553a.go:40", after := #[{ on := 3, ground := Ground.data }], guard := none } (.slice (s 1).a (s 1).n (s 1).c) rfl (by kernel_rfl) (by kernel_rfl) (by kernel_rfl) (by kernel_rfl) (fun _ _ _ h => h) (Or.inl ⟨by rfl, by intro w hSw; have hSc := hSw.cell; clear hSw; go_simp⟩) hHeld ?_
  simp only [Act.put, List.setIfInBounds_toArray, List.set_cons_zero, List.set_cons_succ]
  refine takeE 5 { dst := some 14, op := Op.load 27 (Operand.tmp 4), type := 27, pos := "zz_law_s6553a.go:40", after := #[], guard := none } (.agg (by8 key).toArray) rfl (by kernel_rfl) (by kernel_rfl) (by kernel_rfl) (by kernel_rfl) (fun _ _ _ h => h) (Or.inl ⟨by rfl, fun w hSw => load27 rfl rfl hl hSw.box⟩) hHeld ?_
  simp only [Act.put, List.setIfInBounds_toArray, List.set_cons_zero, List.set_cons_succ]
  refine stepE 6 { dst := some 15, op := Op.buildSlice 28 1 #[(0, Operand.tmp 14)], type := 28, pos := "zz_law_s6553a.go:40", after := #[{ on := 5, ground := Ground.data }], guard := none } rfl (by kernel_rfl) (fun K hK => ?_)
  rw [if_pos (by rfl)]
  refine wp_value (buildSlice_exec rfl hl rfl) ?_
  simp only [Act.put, List.setIfInBounds_toArray, List.set_cons_zero, List.set_cons_succ]
  have M2 := HS.out.1.alloc (.cells (by8 key).toArray 27)
  have hS2 := hHeld.grown (grown_alloc _ (.cells (by8 key).toArray 27) none) (by simp) (by simp)
  have hsrc2 := range_new w1.drew (by8 key) 27
  have hg2 : w1.drew.grownBy (w1.drew.alloc (.cells (by8 key).toArray 27)) none := grown_alloc _ _ _
  generalize hw2 : w1.drew.alloc (.cells (by8 key).toArray 27) = w2 at *
  refine hK _ _ (fun _ => hS2) ?_
  clear hK K hw2
  refine stepE 7 { dst := some 16, op := Op.call { callee := Callee.builtin Builtin.append, args := #[Operand.tmp 13, Operand.tmp 15], argTypes := #[28, 28] }, type := 28, pos := "zz_law_s6553a.go:40", after := #[{ on := 4, ground := Ground.data }, { on := 6, ground := Ground.data }], guard := none } rfl (by kernel_rfl) (fun K hK => ?_)
  refine step_append_caps rfl (.tmp 13) (.tmp 15) 28 rfl B 27 20 20 Yba.underlying28 Yba.row27 (by decide) _ _ _ _ rfl (M2.rt.own 1) _ 1 1 (by8 key) rfl (by rw [by8_length, hl]) (fun j u hj => by rw [Addr.add_mid]; exact hsrc2 j u hj) (by8_one _) (by decide) (by unfold maxLen; omega) (by omega) M2.rt.size ?_
  intro g cap' w3 hown hg hat hcap
  simp only [Act.put, List.setIfInBounds_toArray, List.set_cons_zero, List.set_cons_succ]
  have hne : (Value.slice (s 1).a (s 1).n (s 1).c).ownBlock ≠ some rb := fun e => by have := ((HR.out.own 1).lt _ e).1; have := HR.out.lt; omega
  have hS3 := hS2.grown hg hne (fun e => by have := ((HR.out.own 1).lt _ e).2; omega)
  have M3 := RtAt.app (k := 1) M2.rt (by decide) (by decide) ⟨some ⟨g, 0, none⟩, (s 1).n + 1, cap', (s 1).xs ++ by8 key⟩ hg hown (by rcases hat with h | h; exact .inl h.symm; exact .inr ⟨g, rfl, h⟩)
  refine hK _ _ (fun _ => hS3) ?_
  clear hK K
  refine stepE 8 { dst := some 17, op := Op.nilCheck (Operand.tmp 9), type := 0, pos := "zz_law_s6553a.go:40", after := #[{ on := 0, ground := Ground.data }, { on := 0, ground := Ground.phase }, { on := 1, ground := Ground.phase }, { on := 2, ground := Ground.phase }, { on := 3, ground := Ground.phase }, { on := 4, ground := Ground.phase }, { on := 5, ground := Ground.phase }, { on := 6, ground := Ground.phase }, { on := 7, ground := Ground.phase }], guard := none } rfl (by kernel_rfl) (fun K hK => ?_)
  rw [if_pos (by rfl)]
  refine wp_same (.pointer (some ⟨rb, 0, none⟩)) (by go_simp) ?_
  simp only [Act.put, List.setIfInBounds_toArray, List.set_cons_zero, List.set_cons_succ]
  refine hK _ _ (fun _ => hS3) ?_
  clear hK K
  refine stepE 9 { dst := some 18, op := Op.fieldAddr 33 (Operand.tmp 17) 1, type := 0, pos := "zz_law_s6553a.go:40", after := #[{ on := 8, ground := Ground.data }, { on := 0, ground := Ground.phase }, { on := 1, ground := Ground.phase }, { on := 2, ground := Ground.phase }, { on := 3, ground := Ground.phase }, { on := 4, ground := Ground.phase }, { on := 5, ground := Ground.phase }, { on := 6, ground := Ground.phase }, { on := 7, ground := Ground.phase }], guard := none } rfl (by kernel_rfl) (fun K hK => ?_)
  rw [if_pos (by rfl)]
  refine wp_same (.pointer (some ⟨rb, 1, none⟩)) (by go_simp) ?_
  simp only [Act.put, List.setIfInBounds_toArray, List.set_cons_zero, List.set_cons_succ]
  refine hK _ _ (fun _ => hS3) ?_
  clear hK K
  refine stepE 10 { dst := none, op := Op.store 28 (Operand.tmp 18) (Operand.tmp 16), type := 0, pos := "zz_law_s6553a.go:40", after := #[{ on := 9, ground := Ground.data }, { on := 7, ground := Ground.data }, { on := 7, ground := Ground.chain }, { on := 0, ground := Ground.phase }, { on := 1, ground := Ground.phase }, { on := 2, ground := Ground.phase }, { on := 3, ground := Ground.phase }, { on := 4, ground := Ground.phase }, { on := 5, ground := Ground.phase }, { on := 6, ground := Ground.phase }, { on := 7, ground := Ground.phase }], guard := none } rfl (by kernel_rfl) (fun K hK => ?_)
  rw [if_pos (by rfl)]
  refine wp_skip' (store28 rfl rfl rfl hS3.cell (by rw [show w3.frozen? ⟨rb, 1, none⟩ = w2.frozen? ⟨rb, 1, none⟩ from World.frozen?_of_block (w := w2) (hg.block rb M2.rt.rbLt (Ne.symm hne))]; exact M2.rt.thaw 1)) ?_
  refine hK _ _ (fun h => by cases h) (doneE (by kernel_rfl) ?_ _)
  simp only [Act.put]
  have M4 := M2.trans M3
  change Moved B rb (.slice (some ⟨lb, 0, none⟩) m m) w s (w3.setCell ⟨rb, 1, none⟩ (.slice (some ⟨g, 0, none⟩) ((s 1).n + 1) cap')) _ at M4
  generalize w3.setCell ⟨rb, 1, none⟩ (.slice (some ⟨g, 0, none⟩) ((s 1).n + 1) cap') = w4 at *
  have hs1 : ∀ k, k ≠ 1 → upd s 1 ⟨some ⟨g, 0, none⟩, (s 1).n + 1, cap', (s 1).xs ++ by8 key⟩ k = s k := fun k hk => upd_other _ _ hk
  have hs2 : upd s 1 ⟨some ⟨g, 0, none⟩, (s 1).n + 1, cap', (s 1).xs ++ by8 key⟩ 1 = _ := upd_same _ _ _
  generalize upd s 1 ⟨some ⟨g, 0, none⟩, (s 1).n + 1, cap', (s 1).xs ++ by8 key⟩ = s4 at *
  have H4 := hid (And.intro M4 (And.intro hs1 hs2))
  have hc0 := M4.rt.cell.1
  have hc2 : w4.cell? ⟨rb, 2, none⟩ = some (.slice (s4 2).a (s4 2).n (s4 2).c) := M4.rt.cell.2.2.1
  have hn4 : (s4 2).n ≤ 1000 := by rw [hs1 2 (by decide)]; exact hn2
  clear hK K M3 hS3 hg hat hown hcap hS2 hsrc2 hHeld HS hne M2 hg2 hg1 M4 hs1 hs2
  refine hK0 _ _ ?_
  clear hK0 K0
  rcases Nat.lt_or_ge m c with hcm | hcm
  · obtain rfl : n = m := by omega
    obtain ⟨Z, hZ, hmk⟩ := make28 n (by omega)
    have k1 : (n : Int) < (c : Int) := by omega
    have k2 : (0 : Int) ≤ (n : Int) := by omega
    have HC := hid hcm
    have HNN := hid hnn
    clear hcm hnn
    go_wp2_with (first
      | (at_builtin; refine wpList_append_full rfl (.tmp 23) (.tmp 25) 30 rfl B 3 1 8 Yba.underlying30 Yba.row3 (by decide) _ _ _ _ rfl (by exact (H4.out.1.alloc _).rt.own 2) (some ⟨w4.heap.size, 0, none⟩) 1 1 [.int .i64 c] rfl rfl (by exact src_new w4 _ 3 _ rfl) (fun u hu => by rw [List.mem_singleton.1 hu]; rfl) (by unfold maxLen; omega) (by omega) (by exact (H4.out.1.alloc _).rt.size) ?_; intro a5 c5 w5 hown5 hg5 hat5; have H5 := hid (closest_mid HR.out hlr hlb H4.out.1 H4.out.2.1 H4.out.2.2 hown5 hg5 hat5 HI.out); have hd0 := H5.out.1.moved.rt.cell.1; have hd1 := (H5.out.1.moved.alloc (.cells Z 27)).rt.cell.1; have hd2 := H5.out.2.2.1; have hf2 := H5.out.2.2.2.1; have hcp := closest_copy (sc := n) H5.out.2.2.2.2.1 H5.out.2.2.2.2.2 Z hZ (by rw [List.length_take, hfl]; omega); have D := hid (closest_done HR.out H5.out.1 H5.out.2.2.2.2.2 Z hZ (by rw [List.length_take, hfl]; omega)); clear hown5 hg5 hat5 H5))
    go_ret
    exact ⟨_, _, rfl, D.out⟩
  · obtain rfl : n = c := by omega
    obtain ⟨Z, hZ, hmk⟩ := make28 n (by omega)
    have k1 : (n : Int) ≤ (m : Int) := by omega
    have k2 : (0 : Int) ≤ (n : Int) := by omega
    have HC := hid hcm
    have HNN := hid hnn
    clear hcm hnn
    go_wp2_with (first
      | (at_builtin; refine wpList_append_full rfl (.tmp 23) (.tmp 25) 30 rfl B 3 1 8 Yba.underlying30 Yba.row3 (by decide) _ _ _ _ rfl (by exact (H4.out.1.alloc _).rt.own 2) (some ⟨w4.heap.size, 0, none⟩) 1 1 [.int .i64 n] rfl rfl (by exact src_new w4 _ 3 _ rfl) (fun u hu => by rw [List.mem_singleton.1 hu]; rfl) (by unfold maxLen; omega) (by omega) (by exact (H4.out.1.alloc _).rt.size) ?_; intro a5 c5 w5 hown5 hg5 hat5; have H5 := hid (closest_mid HR.out hlr hlb H4.out.1 H4.out.2.1 H4.out.2.2 hown5 hg5 hat5 HI.out); have hd0 := H5.out.1.moved.rt.cell.1; have hd1 := (H5.out.1.moved.alloc (.cells Z 27)).rt.cell.1; have hd2 := H5.out.2.2.1; have hf2 := H5.out.2.2.2.1; have hcp := closest_copy (sc := m) H5.out.2.2.2.2.1 H5.out.2.2.2.2.2 Z hZ (by rw [List.length_take, hfl]; omega); have D := hid (closest_done HR.out H5.out.1 H5.out.2.2.2.2.2 Z hZ (by rw [List.length_take, hfl]; omega)); clear hown5 hg5 hat5 H5))
    go_ret
    exact ⟨_, _, rfl, D.out⟩

end Go.Proofs.Ybulkeero
