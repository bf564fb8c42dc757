/- file: the index may still be empty; the call. -/
import Derived.Test.YbulkeeroFile2
import Derived.Carry
namespace Go.Proofs.Ybulkeero
open Go.RowKit Go.Joins

/-- The index before the first filing. -/
structure EAt0 (B rb wid : Nat) (w : World) : Prop where
  lt : rb < B
  size : B ≤ w.heap.size
  blk : w.heap[rb]? = some (.cells #[.int .i64 (wid : Int), .map none, .pointer none] 127 (0, 0))
/-- The index, empty or not: its groups, its counts, its blocks. -/
inductive Idx (B rb wid : Nat) (w : World) : List Grp → List Nat → List Nat → Prop
  | some (S : FS) (h : FAt B rb wid w S) : Idx B rb wid w S.gs S.cnt S.foot
  | none (h : EAt0 B rb wid w) : Idx B rb wid w [] (List.replicate 161 0) []

/-- What file leaves, whether or not the index was empty. -/
structure FileIn (B rb wid : Nat) (w : World) (gs : List Grp) (cnt foot : List Nat) (d c : Nat) (P : List Int) (E vs : List Value) (ib : Nat) (w' : World) (S' : FS) (k : Nat) (g g' : Grp) : Prop where
  at' : FAt B rb wid w' S'
  cnt : S'.cnt = cnt.set d (c + 1)
  was : ((gs.map Grp.gr).findIdx? (hit d P) = some k ∧ gs[k]? = some g ∧ S'.gs = gs.set k g') ∨ ((gs.map Grp.gr).findIdx? (hit d P) = none ∧ k = gs.length ∧ g.d = d ∧ g.P = P ∧ g.ents = nilRow ∧ g.rooms = nilRow ∧ S'.gs = gs ++ [g'])
  gr : g'.gr = g.gr
  en : g'.ents.n = g.ents.n + 1
  ex : g'.ents.xs = g.ents.xs ++ E
  rn : g'.rooms.n = g.rooms.n + wid
  rx : g'.rooms.xs = g.rooms.xs ++ room wid vs
  fr : Fr w w' (fun j => j ∈ foot ∨ j = ib ∨ j = rb)
  ft : ∀ b ∈ S'.foot, b ∈ foot ∨ w.heap.size ≤ b
  item : w'.heap[ib]? = some (.cells (filed g.b g.ents.n) 137 (0, 0))

theorem eq125s (w : World) (m : Nat) : (binOp .eql 125 (.map (some m)) (.map none)).run Yba.prog w = .ok (.bool false) w := by kernel_rfl
theorem eq125n (w : World) : (binOp .eql 125 (.map none) (.map none)).run Yba.prog w = .ok (.bool true) w := by kernel_rfl
def z173 : List Value := (List.replicate 161 0).map fun c : Nat => Value.int .i64 (c : Int)
theorem exec_makeMap {ρ : Operand → Value} {o : Oper} {w : World} (ho : o.op = .makeMap 125 none) : (execOp ρ o).run Yba.prog w = .ok (.value (.map (some w.heap.size))) (w.alloc (.map #[] 0)) := by
  unfold execOp
  simp [ho, run_makeMap]
theorem alloc173 (w : World) : (Instr.alloc 173 true (.tuple #[])).run Yba.prog w = .ok (.pointer (some ⟨w.heap.size, 0, none⟩)) (w.alloc (.cells z173.toArray 173)) := by kernel_rfl
theorem exec_alloc173 {ρ : Operand → Value} {o : Oper} {w : World} (ho : o.op = .alloc 173) : (execOp ρ o).run Yba.prog w = .ok (.value (.pointer (some ⟨w.heap.size, 0, none⟩))) (w.alloc (.cells z173.toArray 173)) := by
  have hz := alloc173 w
  unfold execOp
  simp [ho, hz]
theorem exec_store125 {ρ : Operand → Value} {o : Oper} {w : World} {x y : Operand} (ho : o.op = .store 125 x y) {b off : Nat} (hx : ρ x = .pointer (some ⟨b, off, none⟩)) {m : Option Nat} (hy : ρ y = .map m) {u : Value} (hc : w.cell? ⟨b, off, none⟩ = some u) (hf : w.frozen? ⟨b, off, none⟩ = false) : (execOp ρ o).run Yba.prog w = .ok .skip (w.setCell ⟨b, off, none⟩ (.map m)) := by
  unfold execOp
  simp [ho, hx, hy, go_sem, hc, hf]
theorem exec_store43 {ρ : Operand → Value} {o : Oper} {w : World} {x y : Operand} (ho : o.op = .store 43 x y) {b off : Nat} (hx : ρ x = .pointer (some ⟨b, off, none⟩)) {m : Option Addr} (hy : ρ y = .pointer m) {u : Value} (hc : w.cell? ⟨b, off, none⟩ = some u) (hf : w.frozen? ⟨b, off, none⟩ = false) : (execOp ρ o).run Yba.prog w = .ok .skip (w.setCell ⟨b, off, none⟩ (.pointer m)) := by
  unfold execOp
  simp [ho, hx, hy, go_sem, hc, hf]

/-- The empty index gets its map and its counts. -/
theorem FAt.start {B rb wid : Nat} {w w' : World} (h : EAt0 B rb wid w) (F : Fr w w' (fun j => j = rb)) (hr : w'.heap[rb]? = some (.cells #[.int .i64 (wid : Int), .map (some w.heap.size), .pointer (some ⟨w.heap.size + 1, 0, none⟩)] 127 (0, 0))) (hm : w'.heap[w.heap.size]? = some (.map #[] 0)) (hd : w'.heap[w.heap.size + 1]? = some (.cells z173.toArray 173 (0, 0))) : FAt B rb wid w' ⟨w.heap.size, w.heap.size + 1, [], List.replicate 161 0⟩ := by
  refine ⟨h.lt, Nat.le_trans h.size F.size, hr, ⟨#[], 0, hm, ⟨rfl, by simp⟩⟩, hd, by simp, by simp, ⟨by simp, by simp, by simp, by simp, by simp⟩, ?_⟩
  intro b hb
  have := h.size
  simp [FS.foot] at hb
  omega

set_option maxHeartbeats 1000000 in
set_option maxRecDepth 20000 in
theorem file1 (B rb wid d c eb ib : Nat) (P : List Int) (w : World) (gs : List Grp) (cnt foot : List Nat) (E vs : List Value) (na : Option Addr) (nc : Nat) (u v : Value) (R : Ending → World → Prop) (h : Idx B rb wid w gs cnt foot) (hN : NodesAt B w na vs) (hE : EntAt eb E w) (hef : eb ∉ foot) (hEi : E[47]? = some (.pointer (some ⟨ib, 0, none⟩))) (hib : w.heap[ib]? = some (.cells #[u, v] 137 (0, 0))) (hiB : B ≤ ib) (hif : ib ∉ foot) (hie : ib ≠ eb) (hrbE : eb ≠ rb) (hNr : ∀ w', Fr w w' (fun j => j = rb) → NodesAt B w' na vs) (hd : cnt[d]? = some c) (hc : c ≤ 1000000) (hwid : wid ≤ 1000) (hbig : ∀ g ∈ gs, g.rooms.n ≤ 100000000 ∧ g.ents.n ≤ 100000000) (key far : List Int) (whole : Bool) (lk : key.length = 20) (lf : far.length = 20) (hkb : Byt key) (hfb : Byt far) (rk : w.rangeAt eb 0 (by8 key)) (rf : w.rangeAt eb 22 (by8 far)) (rwh : w.cell? ⟨eb, 43, none⟩ = some (.bool whole)) (hdd : d = rdep key far whole) (hPP : P = rpre key far whole)
    (hR : ∀ w' S' k g g', FileIn B rb wid w gs cnt foot d c P E vs ib w' S' k g g' → R (.returned (.tuple #[])) w') (u1 u3 u5 u6 u7 u8 u9 u10 u11 u12 u13 u14 u15 u16 u17 u18 u19 u20 u21 u22 u23 u24 u25 u26 u27 u28 u29 u30 u31 u32 u33 u34 u35 u36 u37 u38 u39 u40 u41 u42 u43 u44 u45 u46 u47 u48 u49 u50 u51 u52 u53 u54 u55 u56 u57 u58 u59 u60 u61 u62 u63 u64 u65 u66 u67 u68 u69 u70 u71 u72 u73 u74 u75 u76 u77 u78 u79 u80 u81 u82 u83 u84 u85 u86 u87 u88 u89 u90 u91 u92 u93 u94 u95 u96 u97 u98 : Value) :
    (fileC 1).wp Yba.prog (bodyPost Yba.prog Yba.f21 R) ⟨#[.pointer (some ⟨rb, 0, none⟩), u1, .slice na vs.length nc, u3, .pointer (some ⟨eb, 0, none⟩), u5, u6, u7, u8, u9, u10, u11, u12, u13, u14, u15, u16, u17, u18, u19, u20, u21, u22, u23, u24, u25, u26, u27, u28, u29, u30, u31, u32, u33, u34, u35, u36, u37, u38, u39, u40, u41, u42, u43, u44, u45, u46, u47, u48, u49, u50, u51, u52, u53, u54, u55, u56, u57, u58, u59, u60, u61, u62, u63, u64, u65, u66, u67, u68, u69, u70, u71, u72, u73, u74, u75, u76, u77, u78, u79, u80, u81, u82, u83, u84, u85, u86, u87, u88, u89, u90, u91, u92, u93, u94, u95, u96, u97, u98], []⟩ w := by
  change (((Code.region 1 #[{ dst := some 9, op := Op.move (Operand.tmp 0), type := 124, pos := "reach.go:145", after := #[], guard := none }, { dst := some 10, op := Op.nilCheck (Operand.tmp 9), type := 0, pos := "reach.go:145", after := #[{ on := 0, ground := Ground.data }], guard := none }, { dst := some 11, op := Op.fieldAddr 127 (Operand.tmp 10) 1, type := 0, pos := "reach.go:145", after := #[{ on := 1, ground := Ground.data }], guard := none }, { dst := some 12, op := Op.load 125 (Operand.tmp 11), type := 125, pos := "reach.go:145", after := #[{ on := 2, ground := Ground.data }], guard := none }, { dst := some 13, op := Op.binOp BinOp.eql 125 (Operand.tmp 12) (Operand.const (Value.map none)) 125, type := 4, pos := "reach.go:145", after := #[{ on := 3, ground := Ground.data }], guard := none }] false).seq (Code.cond (Operand.tmp 13) ((Code.region 2 #[{ dst := some 14, op := Op.move (Operand.tmp 0), type := 124, pos := "reach.go:146", after := #[], guard := none }, { dst := some 15, op := Op.makeMap 125 none, type := 125, pos := "reach.go:146", after := #[], guard := none }, { dst := some 16, op := Op.nilCheck (Operand.tmp 14), type := 0, pos := "reach.go:146", after := #[{ on := 0, ground := Ground.data }, { on := 0, ground := Ground.phase }, { on := 1, ground := Ground.phase }], guard := none }, { dst := some 17, op := Op.fieldAddr 127 (Operand.tmp 16) 1, type := 0, pos := "reach.go:146", after := #[{ on := 2, ground := Ground.data }, { on := 0, ground := Ground.phase }, { on := 1, ground := Ground.phase }], guard := none }, { dst := none, op := Op.store 125 (Operand.tmp 17) (Operand.tmp 15), type := 0, pos := "reach.go:146", after := #[{ on := 3, ground := Ground.data }, { on := 1, ground := Ground.data }, { on := 0, ground := Ground.phase }, { on := 1, ground := Ground.phase }], guard := none }] false).seq (Code.region 3 #[{ dst := some 18, op := Op.move (Operand.tmp 0), type := 124, pos := "reach.go:147", after := #[], guard := none }, { dst := some 19, op := Op.alloc 173, type := 43, pos := "reach.go:147", after := #[], guard := none }, { dst := some 20, op := Op.nilCheck (Operand.tmp 18), type := 0, pos := "reach.go:147", after := #[{ on := 0, ground := Ground.data }, { on := 0, ground := Ground.phase }, { on := 1, ground := Ground.phase }], guard := none }, { dst := some 21, op := Op.fieldAddr 127 (Operand.tmp 20) 2, type := 0, pos := "reach.go:147", after := #[{ on := 2, ground := Ground.data }, { on := 0, ground := Ground.phase }, { on := 1, ground := Ground.phase }], guard := none }, { dst := none, op := Op.store 43 (Operand.tmp 21) (Operand.tmp 19), type := 0, pos := "reach.go:147", after := #[{ on := 3, ground := Ground.data }, { on := 1, ground := Ground.data }, { on := 0, ground := Ground.phase }, { on := 1, ground := Ground.phase }], guard := none }] false)) Code.skip)).seq (fileC 2)).wp _ _ _ _
  refine wp_seq (wp_seq (wp_region_list ?_))
  cases h with
  | some S h =>
    have hcell := h.cells.2.1
    refine wpList_same (.pointer (some ⟨rb, 0, none⟩)) rfl (by go_simp) ?_
    simp only [Act.put, List.setIfInBounds_toArray, List.set_cons_zero, List.set_cons_succ]
    refine wpList_same (.pointer (some ⟨rb, 0, none⟩)) rfl (by go_simp) ?_
    simp only [Act.put, List.setIfInBounds_toArray, List.set_cons_zero, List.set_cons_succ]
    refine wpList_same (.pointer (some ⟨rb, 1, none⟩)) rfl (by go_simp) ?_
    simp only [Act.put, List.setIfInBounds_toArray, List.set_cons_zero, List.set_cons_succ]
    refine wpList_same (.map (some S.mb)) rfl (by go_simp) ?_
    simp only [Act.put, List.setIfInBounds_toArray, List.set_cons_zero, List.set_cons_succ]
    refine wpList_same (.bool false) rfl (by have hq := eq125s w S.mb; go_simp) ?_
    simp only [Act.put, List.setIfInBounds_toArray, List.set_cons_zero, List.set_cons_succ]
    refine wpList_nil (wp_cond_false rfl (wp_skip ?_))
    clear hcell
    exact file2 B rb wid d c eb ib P w S E vs na nc u v R h hN hE hef hEi hib hiB hif hie hd hc hwid hbig key far whole lk lf hkb hfb rk rf rwh hdd hPP (fun w' S' k g g' T => hR w' S' k g g' ⟨T.at', T.cnt, T.was, T.gr, T.en, T.ex, T.rn, T.rx, T.fr.mono (fun j e => e.imp (fun e => e) .inl), T.ft, T.item⟩) _ _ _ _ _ _ _ _ _ _ _ _ _ _ _ _ _ _ _ _ _ _ _ _ _ _ _ _ _ _ _ _ _ _ _ _ _ _ _ _ _ _ _ _ _ _ _ _ _ _ _ _ _ _ _ _ _ _ _ _ _ _ _ _ _ _ _ _ _ _ _ _ _ _ _ _ _ _ _ _ _ _ _ _ _ _ _ _ _ _ _ _ _ _ _ _
  | none h =>
    have hcell : w.cell? ⟨rb, 1, none⟩ = some (.map none) := by rw [cell_of_block h.blk]; rfl
    have hrl : rb < w.heap.size := Nat.lt_of_lt_of_le h.lt h.size
    refine wpList_same (.pointer (some ⟨rb, 0, none⟩)) rfl (by go_simp) ?_
    simp only [Act.put, List.setIfInBounds_toArray, List.set_cons_zero, List.set_cons_succ]
    refine wpList_same (.pointer (some ⟨rb, 0, none⟩)) rfl (by go_simp) ?_
    simp only [Act.put, List.setIfInBounds_toArray, List.set_cons_zero, List.set_cons_succ]
    refine wpList_same (.pointer (some ⟨rb, 1, none⟩)) rfl (by go_simp) ?_
    simp only [Act.put, List.setIfInBounds_toArray, List.set_cons_zero, List.set_cons_succ]
    refine wpList_same (.map none) rfl (by go_simp) ?_
    simp only [Act.put, List.setIfInBounds_toArray, List.set_cons_zero, List.set_cons_succ]
    refine wpList_same (.bool true) rfl (by have hq := eq125n w; go_simp) ?_
    simp only [Act.put, List.setIfInBounds_toArray, List.set_cons_zero, List.set_cons_succ]
    refine wpList_nil (wp_cond_true rfl (wp_seq (wp_region_list ?_)))
    clear hcell
    refine wpList_same (.pointer (some ⟨rb, 0, none⟩)) rfl (by go_simp) ?_
    simp only [Act.put, List.setIfInBounds_toArray, List.set_cons_zero, List.set_cons_succ]
    refine wpList_value rfl (exec_makeMap rfl) ?_
    simp only [Act.put, List.setIfInBounds_toArray, List.set_cons_zero, List.set_cons_succ]
    have hb1 : (w.alloc (.map #[] 0)).heap[rb]? = some (.cells #[.int .i64 (wid : Int), .map none, .pointer none] 127 (0, 0)) := by rw [Below.heap_alloc _ _ _ hrl]; exact h.blk
    have hm1 := heap_new w (.map #[] 0)
    have F1 : Fr w (w.alloc (.map #[] 0)) (fun _ => False) := fr_of_grown (grown_alloc _ _ _)
    have z1 : (w.alloc (.map #[] 0)).heap.size = w.heap.size + 1 := by simp
    generalize w.alloc (.map #[] 0) = w1 at *
    refine wpList_same (.pointer (some ⟨rb, 0, none⟩)) rfl (by go_simp) ?_
    simp only [Act.put, List.setIfInBounds_toArray, List.set_cons_zero, List.set_cons_succ]
    refine wpList_same (.pointer (some ⟨rb, 1, none⟩)) rfl (by go_simp) ?_
    simp only [Act.put, List.setIfInBounds_toArray, List.set_cons_zero, List.set_cons_succ]
    have c1 : w1.cell? ⟨rb, 1, none⟩ = some (.map none) := by rw [cell_of_block hb1]; rfl
    refine wpList_skip rfl (exec_store125 (x := .tmp 17) (y := .tmp 15) rfl rfl rfl c1 (unfrozen_of_block hb1 _)) ?_
    have hb2 := block_setCell (i := 1) hb1 (Value.map (some w.heap.size))
    have G1 := setCell_grown w1 rb 1 (.map (some w.heap.size))
    have F2 := F1.chain (fr_at G1) (m := fun j => j = rb) (fun _ e => e.elim) (fun _ _ e => e)
    have hm2 : (w1.setCell ⟨rb, 1, none⟩ (.map (some w.heap.size))).heap[w.heap.size]? = some (.map #[] 0) := by rw [G1.block _ (by omega) (by simp; omega)]; exact hm1
    have z2 : (w1.setCell ⟨rb, 1, none⟩ (.map (some w.heap.size))).heap.size = w.heap.size + 1 := by rw [← z1]; exact World.size_setCell _ _ _
    generalize w1.setCell ⟨rb, 1, none⟩ (.map (some w.heap.size)) = w2 at *
    refine wpList_nil ?_
    refine wp_region_list ?_
    refine wpList_same (.pointer (some ⟨rb, 0, none⟩)) rfl (by go_simp) ?_
    simp only [Act.put, List.setIfInBounds_toArray, List.set_cons_zero, List.set_cons_succ]
    refine wpList_value rfl (exec_alloc173 rfl) ?_
    simp only [Act.put, List.setIfInBounds_toArray, List.set_cons_zero, List.set_cons_succ]
    have hr2 : rb < w2.heap.size := Nat.lt_of_lt_of_le hrl F2.size
    have hb3 : (w2.alloc (.cells z173.toArray 173)).heap[rb]? = w2.heap[rb]? := Below.heap_alloc _ _ _ hr2
    rw [hb2] at hb3
    have G2 := grown_alloc w2 (.cells z173.toArray 173) none
    have hd3 := heap_new w2 (.cells z173.toArray 173)
    have hm3 : (w2.alloc (.cells z173.toArray 173)).heap[w.heap.size]? = some (.map #[] 0) := by rw [G2.block _ (by omega) (by simp)]; exact hm2
    have F3 := F2.chain (fr_of_grown G2) (m := fun j => j = rb) (fun _ e => e) (fun _ _ e => e.elim)
    rw [z2] at hd3
    rw [z2]
    have z3 : (w2.alloc (.cells z173.toArray 173)).heap.size = w.heap.size + 2 := by simp [z2]
    generalize w2.alloc (.cells z173.toArray 173) = w3 at *
    refine wpList_same (.pointer (some ⟨rb, 0, none⟩)) rfl (by go_simp) ?_
    simp only [Act.put, List.setIfInBounds_toArray, List.set_cons_zero, List.set_cons_succ]
    refine wpList_same (.pointer (some ⟨rb, 2, none⟩)) rfl (by go_simp) ?_
    simp only [Act.put, List.setIfInBounds_toArray, List.set_cons_zero, List.set_cons_succ]
    have c3 : w3.cell? ⟨rb, 2, none⟩ = some (.pointer none) := by rw [cell_of_block hb3]; rfl
    refine wpList_skip rfl (exec_store43 (x := .tmp 21) (y := .tmp 19) rfl rfl rfl c3 (unfrozen_of_block hb3 _)) ?_
    have hb4 := block_setCell (i := 2) hb3 (Value.pointer (some ⟨w.heap.size + 1, 0, none⟩))
    have G3 := setCell_grown w3 rb 2 (.pointer (some ⟨w.heap.size + 1, 0, none⟩))
    have F4 := F3.chain (fr_at G3) (m := fun j => j = rb) (fun _ e => e) (fun _ _ e => e)
    have hm4 : (w3.setCell ⟨rb, 2, none⟩ (.pointer (some ⟨w.heap.size + 1, 0, none⟩))).heap[w.heap.size]? = some (.map #[] 0) := by rw [G3.block _ (by omega) (by simp; omega)]; exact hm3
    have hd4 : (w3.setCell ⟨rb, 2, none⟩ (.pointer (some ⟨w.heap.size + 1, 0, none⟩))).heap[w.heap.size + 1]? = some (.cells z173.toArray 173 (0, 0)) := by rw [G3.block _ (by omega) (by simp; omega)]; exact hd3
    generalize w3.setCell ⟨rb, 2, none⟩ (.pointer (some ⟨w.heap.size + 1, 0, none⟩)) = w4 at *
    refine wpList_nil ?_
    have A := FAt.start h F4 hb4 hm4 hd4
    have hilt : ib < w.heap.size := (Array.getElem?_eq_some_iff.1 hib).1
    have hlB := h.lt
    have her : eb ≠ rb := hrbE
    have E4 : EntAt eb E w4 := ⟨fun j v hj => F4.cell (hE.box j v hj) her, Nat.lt_of_lt_of_le hE.lt F4.size, hE.len, hE.one⟩
    have rk4 : w4.rangeAt eb 0 (by8 key) := fun j v hj => F4.cell (rk j v hj) her
    have rf4 : w4.rangeAt eb 22 (by8 far) := fun j v hj => F4.cell (rf j v hj) her
    have rw4 : w4.cell? ⟨eb, 43, none⟩ = some (.bool whole) := F4.cell rwh her
    have hib4 : w4.heap[ib]? = some (.cells #[u, v] 137 (0, 0)) := by rw [F4.block ib hilt (by omega)]; exact hib
    have hN4 : NodesAt B w4 na vs := hNr w4 F4
    have hf4 : ∀ b, b ∈ (FS.mk w.heap.size (w.heap.size + 1) [] (List.replicate 161 0)).foot → w.heap.size ≤ b := fun b hb => by simp [FS.foot] at hb; omega
    have hef4 : eb ∉ (FS.mk w.heap.size (w.heap.size + 1) [] (List.replicate 161 0)).foot := fun e => by have := hf4 _ e; have := hE.lt; omega
    have hif4 : ib ∉ (FS.mk w.heap.size (w.heap.size + 1) [] (List.replicate 161 0)).foot := fun e => by have := hf4 _ e; omega
    have hR4 : ∀ w' S' k g g', FileTo B rb wid w4 ⟨w.heap.size, w.heap.size + 1, [], List.replicate 161 0⟩ d c P E vs ib w' S' k g g' → R (.returned (.tuple #[])) w' := fun w' S' k g g' T => hR w' S' k g g' ⟨T.at', T.cnt, T.was, T.gr, T.en, T.ex, T.rn, T.rx, F4.chain T.fr (fun _ e => .inr (.inr e)) (fun j hj e => e.elim (fun e => by have := hf4 _ e; omega) (fun e => .inr (.inl e))), fun b hb => (T.ft b hb).elim (fun e => .inr (hf4 _ e)) (fun e => .inr (Nat.le_trans F4.size e)), T.item⟩
    exact file2 B rb wid d c eb ib P w4 ⟨w.heap.size, w.heap.size + 1, [], List.replicate 161 0⟩ E vs na nc u v R A hN4 E4 hef4 hEi hib4 hiB hif4 hie hd hc hwid (by simp) key far whole lk lf hkb hfb rk4 rf4 rw4 hdd hPP hR4 _ _ _ _ _ _ _ _ _ _ _ _ _ _ _ _ _ _ _ _ _ _ _ _ _ _ _ _ _ _ _ _ _ _ _ _ _ _ _ _ _ _ _ _ _ _ _ _ _ _ _ _ _ _ _ _ _ _ _ _ _ _ _ _ _ _ _ _ _ _ _ _ _ _ _ _ _ _ _ _ _ _ _ _ _ _ _ _ _ _ _ _ _ _ _ _

end Go.Proofs.Ybulkeero
