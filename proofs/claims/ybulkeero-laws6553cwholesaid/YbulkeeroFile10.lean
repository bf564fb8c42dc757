/- file, her last region: one more at the depth. -/
import Derived.Test.YbulkeeroFiled2
namespace Go.Proofs.Ybulkeero
open Go.RowKit Go.Joins

noncomputable def fileC (n : Nat) : Code := zdrop n (Yba.f21.body.getD .ret)
theorem FAt.cells {B rb wid : Nat} {w : World} {S : FS} (h : FAt B rb wid w S) : w.cell? ⟨rb, 0, none⟩ = some (.int .i64 (wid : Int)) ∧ w.cell? ⟨rb, 1, none⟩ = some (.map (some S.mb)) ∧ w.cell? ⟨rb, 2, none⟩ = some (.pointer (some ⟨S.db, 0, none⟩)) := by
  refine ⟨?_, ?_, ?_⟩ <;> rw [cell_of_block h.blk] <;> rfl
theorem FAt.depth {B rb wid d c : Nat} {w : World} {S : FS} (h : FAt B rb wid w S) (hd : S.cnt[d]? = some c) : w.cell? ⟨S.db, d, none⟩ = some (.int .i64 (c : Int)) ∧ w.frozen? ⟨S.db, d, none⟩ = false := by
  refine ⟨?_, unfrozen_of_block h.dep _⟩
  rw [cell_of_block h.dep, List.getElem?_toArray, List.getElem?_map, hd]
  rfl
theorem exec_store3 {ρ : Operand → Value} {o : Oper} {w : World} {x y : Operand} (ho : o.op = .store 3 x y) {b off : Nat} (hx : ρ x = .pointer (some ⟨b, off, none⟩)) {m : Int} (hy : ρ y = .int .i64 m) {u : Value} (hc : w.cell? ⟨b, off, none⟩ = some u) (hf : w.frozen? ⟨b, off, none⟩ = false) : (execOp ρ o).run Yba.prog w = .ok .skip (w.setCell ⟨b, off, none⟩ (.int .i64 m)) := by
  unfold execOp
  simp [ho, hx, hy, go_sem, hc, hf]

set_option maxHeartbeats 1000000 in
set_option maxRecDepth 20000 in
theorem file10 (B rb wid nb d c : Nat) (w : World) (S : FS) (R : Ending → World → Prop) (h : FAt B rb wid w S) (hd : S.cnt[d]? = some c) (hnb : w.cell? ⟨nb, 0, none⟩ = some (.int .i64 (d : Int))) (hne : nb ≠ S.db) (hc : c ≤ 1000000)
    (hR : R (.returned (.tuple #[])) (w.drew.setCell ⟨S.db, d, none⟩ (.int .i64 ((c + 1 : Nat) : Int)))) (u1 u2 u3 u4 u5 u7 u8 u9 u10 u11 u12 u13 u14 u15 u16 u17 u18 u19 u20 u21 u22 u23 u24 u25 u26 u27 u28 u29 u30 u31 u32 u33 u34 u35 u36 u37 u38 u39 u40 u41 u42 u43 u44 u45 u46 u47 u48 u49 u50 u51 u52 u53 u54 u55 u56 u57 u58 u59 u60 u61 u62 u63 u64 u65 u66 u67 u68 u69 u70 u71 u72 u73 u74 u75 u76 u77 u78 u79 u80 u81 u82 u83 u84 u85 u86 u87 u88 u89 u90 u91 u92 u93 u94 u95 u96 u97 u98 : Value) :
    (fileC 10).wp Yba.prog (bodyPost Yba.prog Yba.f21 R) ⟨#[.pointer (some ⟨rb, 0, none⟩), u1, u2, u3, u4, u5, .pointer (some ⟨nb, 0, none⟩), u7, u8, u9, u10, u11, u12, u13, u14, u15, u16, u17, u18, u19, u20, u21, u22, u23, u24, u25, u26, u27, u28, u29, u30, u31, u32, u33, u34, u35, u36, u37, u38, u39, u40, u41, u42, u43, u44, u45, u46, u47, u48, u49, u50, u51, u52, u53, u54, u55, u56, u57, u58, u59, u60, u61, u62, u63, u64, u65, u66, u67, u68, u69, u70, u71, u72, u73, u74, u75, u76, u77, u78, u79, u80, u81, u82, u83, u84, u85, u86, u87, u88, u89, u90, u91, u92, u93, u94, u95, u96, u97, u98], []⟩ w := by
  have hd160 : d < 161 := by have := (List.getElem?_eq_some_iff.1 hd).1; have := h.cnt; omega
  have hrb : rb ≠ S.db := fun e => by have := h.ge S.db (by simp [FS.foot]); have := h.lt; omega
  have z0 : (0 : Int) ≤ (d : Int) := by omega
  have z1 : (d : Int) < 161 := by omega
  have HW := hid (wrap_succ' c (by omega))
  have hdp := h.depth hd
  have hcl := h.cells.2.2
  change (Code.region 14 #[{ dst := some 87, op := Op.move (Operand.tmp 0), type := 124, pos := "reach.go:160", after := #[], guard := none }, { dst := some 88, op := Op.nilCheck (Operand.tmp 87), type := 0, pos := "reach.go:160", after := #[{ on := 0, ground := Ground.data }], guard := none }, { dst := some 89, op := Op.fieldAddr 127 (Operand.tmp 88) 2, type := 0, pos := "reach.go:160", after := #[{ on := 1, ground := Ground.data }], guard := none }, { dst := some 90, op := Op.load 43 (Operand.tmp 89), type := 43, pos := "reach.go:160", after := #[{ on := 2, ground := Ground.data }], guard := none }, { dst := some 91, op := Op.fieldAddr 139 (Operand.tmp 6) 0, type := 0, pos := "reach.go:160", after := #[], guard := none }, { dst := some 92, op := Op.load 3 (Operand.tmp 91), type := 3, pos := "reach.go:160", after := #[{ on := 4, ground := Ground.data }], guard := none }, { dst := some 93, op := Op.nilCheck (Operand.tmp 90), type := 0, pos := "reach.go:160", after := #[{ on := 3, ground := Ground.data }], guard := none }, { dst := some 94, op := Op.indexAddr 173 (Operand.tmp 93) (Operand.tmp 92), type := 0, pos := "reach.go:160", after := #[{ on := 6, ground := Ground.data }, { on := 5, ground := Ground.data }], guard := none }, { dst := some 95, op := Op.load 3 (Operand.tmp 94), type := 3, pos := "reach.go:160", after := #[{ on := 7, ground := Ground.data }], guard := none }, { dst := some 96, op := Op.binOp BinOp.add 3 (Operand.tmp 95) (Operand.const (Value.int IntKind.i64 1)) 3, type := 3, pos := "reach.go:160", after := #[{ on := 8, ground := Ground.data }], guard := none }, { dst := some 97, op := Op.nilCheck (Operand.tmp 90), type := 0, pos := "reach.go:160", after := #[{ on := 3, ground := Ground.data }], guard := none }, { dst := some 98, op := Op.indexAddr 173 (Operand.tmp 97) (Operand.tmp 92), type := 0, pos := "reach.go:160", after := #[{ on := 10, ground := Ground.data }, { on := 5, ground := Ground.data }, { on := 0, ground := Ground.phase }, { on := 1, ground := Ground.phase }, { on := 2, ground := Ground.phase }, { on := 3, ground := Ground.phase }, { on := 4, ground := Ground.phase }, { on := 5, ground := Ground.phase }, { on := 6, ground := Ground.phase }, { on := 7, ground := Ground.phase }, { on := 8, ground := Ground.phase }, { on := 9, ground := Ground.phase }], guard := none }, { dst := none, op := Op.store 3 (Operand.tmp 98) (Operand.tmp 96), type := 0, pos := "reach.go:160", after := #[{ on := 11, ground := Ground.data }, { on := 9, ground := Ground.data }, { on := 0, ground := Ground.phase }, { on := 1, ground := Ground.phase }, { on := 2, ground := Ground.phase }, { on := 3, ground := Ground.phase }, { on := 4, ground := Ground.phase }, { on := 5, ground := Ground.phase }, { on := 6, ground := Ground.phase }, { on := 7, ground := Ground.phase }, { on := 8, ground := Ground.phase }, { on := 9, ground := Ground.phase }], guard := none }] true).wp _ _ _ _
  refine beginE [] (fun w' : World => w'.cell? ⟨rb, 2, none⟩ = some (.pointer (some ⟨S.db, 0, none⟩)) ∧ w'.cell? ⟨nb, 0, none⟩ = some (.int .i64 (d : Int))) (by kernel_rfl) ⟨hcl, hnb⟩ (fun hHeld => ?_)
  refine takeE 0 { dst := some 87, op := Op.move (Operand.tmp 0), type := 124, pos := "reach.go:160", after := #[], guard := none } (.pointer (some ⟨rb, 0, none⟩)) rfl (by kernel_rfl) (by kernel_rfl) (by kernel_rfl) (by kernel_rfl) (fun _ _ _ h => h) (Or.inl ⟨by rfl, by intro w hSw; clear hSw; go_simp⟩) hHeld ?_
  simp only [Act.put, List.setIfInBounds_toArray, List.set_cons_zero, List.set_cons_succ]
  refine takeE 1 { dst := some 88, op := Op.nilCheck (Operand.tmp 87), type := 0, pos := "reach.go:160", after := #[{ on := 0, ground := Ground.data }], guard := none } (.pointer (some ⟨rb, 0, none⟩)) rfl (by kernel_rfl) (by kernel_rfl) (by kernel_rfl) (by kernel_rfl) (fun _ _ _ h => h) (Or.inl ⟨by rfl, by intro w hSw; clear hSw; go_simp⟩) hHeld ?_
  simp only [Act.put, List.setIfInBounds_toArray, List.set_cons_zero, List.set_cons_succ]
  refine takeE 2 { dst := some 89, op := Op.fieldAddr 127 (Operand.tmp 88) 2, type := 0, pos := "reach.go:160", after := #[{ on := 1, ground := Ground.data }], guard := none } (.pointer (some ⟨rb, 2, none⟩)) rfl (by kernel_rfl) (by kernel_rfl) (by kernel_rfl) (by kernel_rfl) (fun _ _ _ h => h) (Or.inl ⟨by rfl, by intro w hSw; clear hSw; go_simp⟩) hHeld ?_
  simp only [Act.put, List.setIfInBounds_toArray, List.set_cons_zero, List.set_cons_succ]
  refine takeE 3 { dst := some 90, op := Op.load 43 (Operand.tmp 89), type := 43, pos := "reach.go:160", after := #[{ on := 2, ground := Ground.data }], guard := none } (.pointer (some ⟨S.db, 0, none⟩)) rfl (by kernel_rfl) (by kernel_rfl) (by kernel_rfl) (by kernel_rfl) (fun _ _ _ h => h) (Or.inl ⟨by rfl, by intro w hSw; have hSc := hSw.1; clear hSw; go_simp⟩) hHeld ?_
  simp only [Act.put, List.setIfInBounds_toArray, List.set_cons_zero, List.set_cons_succ]
  refine takeE 4 { dst := some 91, op := Op.fieldAddr 139 (Operand.tmp 6) 0, type := 0, pos := "reach.go:160", after := #[], guard := none } (.pointer (some ⟨nb, 0, none⟩)) rfl (by kernel_rfl) (by kernel_rfl) (by kernel_rfl) (by kernel_rfl) (fun _ _ _ h => h) (Or.inl ⟨by rfl, by intro w hSw; clear hSw; go_simp⟩) hHeld ?_
  simp only [Act.put, List.setIfInBounds_toArray, List.set_cons_zero, List.set_cons_succ]
  refine takeE 5 { dst := some 92, op := Op.load 3 (Operand.tmp 91), type := 3, pos := "reach.go:160", after := #[{ on := 4, ground := Ground.data }], guard := none } (.int .i64 (d : Int)) rfl (by kernel_rfl) (by kernel_rfl) (by kernel_rfl) (by kernel_rfl) (fun _ _ _ h => h) (Or.inl ⟨by rfl, by intro w hSw; have hSc := hSw.2; clear hSw; go_simp⟩) hHeld ?_
  simp only [Act.put, List.setIfInBounds_toArray, List.set_cons_zero, List.set_cons_succ]
  refine takeE 6 { dst := some 93, op := Op.nilCheck (Operand.tmp 90), type := 0, pos := "reach.go:160", after := #[{ on := 3, ground := Ground.data }], guard := none } (.pointer (some ⟨S.db, 0, none⟩)) rfl (by kernel_rfl) (by kernel_rfl) (by kernel_rfl) (by kernel_rfl) (fun _ _ _ h => h) (Or.inl ⟨by rfl, by intro w hSw; clear hSw; go_simp⟩) hHeld ?_
  simp only [Act.put, List.setIfInBounds_toArray, List.set_cons_zero, List.set_cons_succ]
  refine takeE 7 { dst := some 94, op := Op.indexAddr 173 (Operand.tmp 93) (Operand.tmp 92), type := 0, pos := "reach.go:160", after := #[{ on := 6, ground := Ground.data }, { on := 5, ground := Ground.data }], guard := none } (.pointer (some ⟨S.db, d, none⟩)) rfl (by kernel_rfl) (by kernel_rfl) (by kernel_rfl) (by kernel_rfl) (fun _ _ _ h => h) (Or.inl ⟨by rfl, by intro w hSw; clear hSw; go_simp⟩) hHeld ?_
  simp only [Act.put, List.setIfInBounds_toArray, List.set_cons_zero, List.set_cons_succ]
  refine takeE 10 { dst := some 97, op := Op.nilCheck (Operand.tmp 90), type := 0, pos := "reach.go:160", after := #[{ on := 3, ground := Ground.data }], guard := none } (.pointer (some ⟨S.db, 0, none⟩)) rfl (by kernel_rfl) (by kernel_rfl) (by kernel_rfl) (by kernel_rfl) (fun _ _ _ h => h) (Or.inl ⟨by rfl, by intro w hSw; clear hSw; go_simp⟩) hHeld ?_
  simp only [Act.put, List.setIfInBounds_toArray, List.set_cons_zero, List.set_cons_succ]
  refine stepE 8 { dst := some 95, op := Op.load 3 (Operand.tmp 94), type := 3, pos := "reach.go:160", after := #[{ on := 7, ground := Ground.data }], guard := none } rfl (by kernel_rfl) (fun K hK => ?_)
  rw [if_pos (by rfl)]
  refine wp_same (.int .i64 (c : Int)) (by have hdc : w.drew.cell? ⟨S.db, d, none⟩ = some (.int .i64 (c : Int)) := hdp.1
                                           go_simp) ?_
  simp only [Act.put, List.setIfInBounds_toArray, List.set_cons_zero, List.set_cons_succ]
  refine hK _ _ (fun _ => hHeld) ?_
  clear hK K
  refine stepE 9 { dst := some 96, op := Op.binOp BinOp.add 3 (Operand.tmp 95) (Operand.const (Value.int IntKind.i64 1)) 3, type := 3, pos := "reach.go:160", after := #[{ on := 8, ground := Ground.data }], guard := none } rfl (by kernel_rfl) (fun K hK => ?_)
  rw [if_pos (by rfl)]
  refine wp_same (.int .i64 ((c : Int) + 1)) (by have hwk := HW.out
                                                 go_simp) ?_
  simp only [Act.put, List.setIfInBounds_toArray, List.set_cons_zero, List.set_cons_succ]
  refine hK _ _ (fun _ => hHeld) ?_
  clear hK K
  refine stepE 11 { dst := some 98, op := Op.indexAddr 173 (Operand.tmp 97) (Operand.tmp 92), type := 0, pos := "reach.go:160", after := #[{ on := 10, ground := Ground.data }, { on := 5, ground := Ground.data }, { on := 0, ground := Ground.phase }, { on := 1, ground := Ground.phase }, { on := 2, ground := Ground.phase }, { on := 3, ground := Ground.phase }, { on := 4, ground := Ground.phase }, { on := 5, ground := Ground.phase }, { on := 6, ground := Ground.phase }, { on := 7, ground := Ground.phase }, { on := 8, ground := Ground.phase }, { on := 9, ground := Ground.phase }], guard := none } rfl (by kernel_rfl) (fun K hK => ?_)
  rw [if_pos (by rfl)]
  refine wp_same (.pointer (some ⟨S.db, d, none⟩)) (by go_simp) ?_
  simp only [Act.put, List.setIfInBounds_toArray, List.set_cons_zero, List.set_cons_succ]
  refine hK _ _ (fun _ => hHeld) ?_
  clear hK K
  refine stepE 12 { dst := none, op := Op.store 3 (Operand.tmp 98) (Operand.tmp 96), type := 0, pos := "reach.go:160", after := #[{ on := 11, ground := Ground.data }, { on := 9, ground := Ground.data }, { on := 0, ground := Ground.phase }, { on := 1, ground := Ground.phase }, { on := 2, ground := Ground.phase }, { on := 3, ground := Ground.phase }, { on := 4, ground := Ground.phase }, { on := 5, ground := Ground.phase }, { on := 6, ground := Ground.phase }, { on := 7, ground := Ground.phase }, { on := 8, ground := Ground.phase }, { on := 9, ground := Ground.phase }], guard := none } rfl (by kernel_rfl) (fun K hK => ?_)
  rw [if_pos (by rfl)]
  refine wp_skip' (exec_store3 rfl rfl rfl (show w.drew.cell? ⟨S.db, d, none⟩ = some _ from hdp.1) (show w.drew.frozen? ⟨S.db, d, none⟩ = false from hdp.2)) ?_
  simp only [Act.put]
  refine hK _ _ (fun _ => ⟨?_, ?_⟩) (doneE (by kernel_rfl) ?_ _)
  · rw [World.cell?_setCell_far _ _ _ _ (by simpa using Ne.symm hrb)]; exact hHeld.1
  · rw [World.cell?_setCell_far _ _ _ _ (by simpa using Ne.symm hne)]; exact hHeld.2
  · exact bodyPost_end (results_none rfl _ _ _) rfl hR

end Go.Proofs.Ybulkeero
