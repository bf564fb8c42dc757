/- file: the nodes are copied into the room. -/
import Derived.Test.YbulkeeroDone
namespace Go.Proofs.Ybulkeero
open Go.RowKit Go.Joins

theorem exec_copyR {ρ : Operand → Value} {o : Oper} {w w' : World} {x y : Operand} (ho : o.op = .call { callee := .builtin .copy, args := #[x, y], argTypes := #[47, 47] }) {u v q : Value} (hx : ρ x = u) (hy : ρ y = v) (hr : (Builtin.copy_ #[47, 47] o.type #[u, v]).run Yba.prog w = .ok q w') :
    (execOp ρ o).run Yba.prog w = .ok (.value q) w' := by
  unfold execOp
  simp [ho, resolve, invoke, builtin, hx, hy, hr, Result.andThen]
theorem exec_load47 {ρ : Operand → Value} {o : Oper} {w : World} {x : Operand} (ho : o.op = .load 47 x) {b off : Nat} (hx : ρ x = .pointer (some ⟨b, off, none⟩)) {r : Row} (hc : w.cell? ⟨b, off, none⟩ = some r.val) : (execOp ρ o).run Yba.prog w = .ok (.value r.val) w := by
  unfold Row.val at *
  unfold execOp
  simp [ho, hx, go_sem, hc]
theorem exec_sliceR {ρ : Operand → Value} {o : Oper} {w : World} {x y : Operand} (ho : o.op = .slice 47 x (some y) none none) {r : Row} {n m : Nat} (hx : ρ x = r.val) (hy : ρ y = .int .i64 (n : Int)) (hn : r.n = n + m) :
    (execOp ρ o).run Yba.prog w = .ok (.value (.slice (if r.c = n then r.a else r.a.map (·.add n)) m (r.c - n))) w := by
  obtain ⟨i, hi, hs⟩ := Option.map_eq_some_iff.1 Yba.size23
  have h1 : (0 : Int) ≤ (n : Int) ∧ (n : Int) ≤ ((n + m : Nat) : Int) := by omega
  unfold Row.val at hx
  rw [hn] at hx
  unfold execOp
  simp [ho, hx, hy, Instr.sliceAt, Instr.slice, run_underlying Yba.underlying47, Instr.sliceBounds, Instr.sliceBound, asIntOf, sizeOf, typeInfo, hi, hs]

set_option maxHeartbeats 1000000 in
set_option maxRecDepth 20000 in
theorem file9 (B rb wid nb d c k n : Nat) (w : World) (S : FS) (g : Grp) (xs vs : List Value) (na : Option Addr) (nc : Nat) (R : Ending → World → Prop) (h : FAt B rb wid w S) (hg : S.gs[k]? = some g) (hrn : g.rooms.n = n + wid) (hrx : g.rooms.xs = xs ++ zs32 wid) (hxl : xs.length = n) (hsrc : Src w na vs) (h1 : ∀ v ∈ vs, v.oneCell' = true) (hd : S.cnt[d]? = some c) (hnb : w.cell? ⟨nb, 0, none⟩ = some (.int .i64 (d : Int))) (hnf : nb ∉ S.foot) (hc : c ≤ 1000000)
    (hR : ∀ w', Done B rb wid w S k d c { g with rooms := { g.rooms with xs := xs ++ room wid vs } } w' → R (.returned (.tuple #[])) w') (u1 u3 u4 u5 u9 u10 u11 u12 u13 u14 u15 u16 u17 u18 u19 u20 u21 u22 u23 u24 u25 u26 u27 u28 u29 u30 u31 u32 u33 u34 u35 u36 u37 u38 u39 u40 u41 u42 u43 u44 u45 u46 u47 u48 u49 u50 u51 u52 u53 u54 u55 u56 u57 u58 u59 u60 u61 u62 u63 u64 u65 u66 u67 u68 u69 u70 u71 u72 u73 u74 u75 u76 u77 u78 u79 u80 u81 u82 u83 u84 u85 u86 u87 u88 u89 u90 u91 u92 u93 u94 u95 u96 u97 u98 : Value) :
    (fileC 9).wp Yba.prog (bodyPost Yba.prog Yba.f21 R) ⟨#[.pointer (some ⟨rb, 0, none⟩), u1, .slice na vs.length nc, u3, u4, u5, .pointer (some ⟨nb, 0, none⟩), .pointer (some ⟨g.b, 0, none⟩), .int .i64 (n : Int), u9, u10, u11, u12, u13, u14, u15, u16, u17, u18, u19, u20, u21, u22, u23, u24, u25, u26, u27, u28, u29, u30, u31, u32, u33, u34, u35, u36, u37, u38, u39, u40, u41, u42, u43, u44, u45, u46, u47, u48, u49, u50, u51, u52, u53, u54, u55, u56, u57, u58, u59, u60, u61, u62, u63, u64, u65, u66, u67, u68, u69, u70, u71, u72, u73, u74, u75, u76, u77, u78, u79, u80, u81, u82, u83, u84, u85, u86, u87, u88, u89, u90, u91, u92, u93, u94, u95, u96, u97, u98], []⟩ w := by
  have hgm := List.mem_of_getElem? hg
  have G := h.grp g hgm
  change ((Code.region 13 #[{ dst := some 79, op := Op.move (Operand.tmp 7), type := 133, pos := "reach.go:159", after := #[], guard := none }, { dst := some 80, op := Op.nilCheck (Operand.tmp 79), type := 0, pos := "reach.go:159", after := #[{ on := 0, ground := Ground.data }], guard := none }, { dst := some 81, op := Op.fieldAddr 152 (Operand.tmp 80) 2, type := 0, pos := "reach.go:159", after := #[{ on := 1, ground := Ground.data }], guard := none }, { dst := some 82, op := Op.load 47 (Operand.tmp 81), type := 47, pos := "reach.go:159", after := #[{ on := 2, ground := Ground.data }], guard := none }, { dst := some 83, op := Op.move (Operand.tmp 8), type := 3, pos := "reach.go:159", after := #[], guard := none }, { dst := some 84, op := Op.slice 47 (Operand.tmp 82) (some (Operand.tmp 83)) none none, type := 47, pos := "reach.go:159", after := #[{ on := 3, ground := Ground.data }, { on := 4, ground := Ground.data }], guard := none }, { dst := some 85, op := Op.move (Operand.tmp 2), type := 47, pos := "reach.go:159", after := #[], guard := none }, { dst := some 86, op := Op.call { callee := Callee.builtin Builtin.copy, args := #[Operand.tmp 84, Operand.tmp 85], argTypes := #[47, 47] }, type := 3, pos := "reach.go:159", after := #[{ on := 5, ground := Ground.data }, { on := 6, ground := Ground.data }], guard := none }] false).seq (fileC 10)).wp _ _ _ _
  refine wp_seq (wp_region_list ?_)
  refine wpList_same (.pointer (some ⟨g.b, 0, none⟩)) rfl (by go_simp) ?_
  simp only [Act.put, List.setIfInBounds_toArray, List.set_cons_zero, List.set_cons_succ]
  refine wpList_same (.pointer (some ⟨g.b, 0, none⟩)) rfl (by go_simp) ?_
  simp only [Act.put, List.setIfInBounds_toArray, List.set_cons_zero, List.set_cons_succ]
  refine wpList_same (.pointer (some ⟨g.b, 22, none⟩)) rfl (by go_simp) ?_
  simp only [Act.put, List.setIfInBounds_toArray, List.set_cons_zero, List.set_cons_succ]
  refine wpList_value rfl (exec_load47 rfl rfl G.c22.1) ?_
  simp only [Act.put, List.setIfInBounds_toArray, List.set_cons_zero, List.set_cons_succ]
  refine wpList_same (.int .i64 (n : Int)) rfl (by go_simp) ?_
  simp only [Act.put, List.setIfInBounds_toArray, List.set_cons_zero, List.set_cons_succ]
  refine wpList_value rfl (exec_sliceR (m := wid) rfl rfl rfl hrn) ?_
  simp only [Act.put, List.setIfInBounds_toArray, List.set_cons_zero, List.set_cons_succ]
  refine wpList_same (.slice na vs.length nc) rfl (by go_simp) ?_
  simp only [Act.put, List.setIfInBounds_toArray, List.set_cons_zero, List.set_cons_succ]
  obtain ⟨w1, hrun, hown, hgr⟩ := copy_rooms w 3 B g.rooms n wid xs vs na nc hrn hrx hxl G.rooms hsrc h1
  refine wpList_value rfl (exec_copyR (x := .tmp 84) (y := .tmp 85) rfl rfl rfl hrun) ?_
  simp only [Act.put, List.setIfInBounds_toArray, List.set_cons_zero, List.set_cons_succ]
  obtain ⟨A1, F1⟩ := h.written hg _ hgr hown
  have F1' : Fr w w1 (fun j => j ∈ S.foot) := F1.mono (fun j hj => foot_of hgm hj)
  refine wpList_nil ?_
  refine file10 B rb wid nb d c w1 _ R A1 hd (F1'.cell hnb hnf) (fun e => hnf (by simp [FS.foot, e])) hc (hR _ (Done.after (g1 := { g with rooms := { g.rooms with xs := xs ++ room wid vs } }) F1' (fun b hb => .inl (foot_of hgm hb)) ⟨?_, ?_, fun b hb => .inl (foot_of (List.mem_of_getElem? (List.getElem?_set_self (List.getElem?_eq_some_iff.1 hg).1)) hb)⟩)) _ _ _ _ _ _ _ _ _ _ _ _ _ _ _ _ _ _ _ _ _ _ _ _ _ _ _ _ _ _ _ _ _ _ _ _ _ _ _ _ _ _ _ _ _ _ _ _ _ _ _ _ _ _ _ _ _ _ _ _ _ _ _ _ _ _ _ _ _ _ _ _ _ _ _ _ _ _ _ _ _ _ _ _ _ _ _ _ _ _ _ _ _ _ _ _ _
  · have A2 := (A1.grown (grown_drew w1)).count hd
    simp only [List.set_set]
    exact A2
  · exact (Fr.drew w1 (fun _ => False)).chain (fr_at (setCell_grown w1.drew S.db d _)) (fun _ h => h.elim) (fun j _ e => by simp [FS.foot, e])

end Go.Proofs.Ybulkeero
