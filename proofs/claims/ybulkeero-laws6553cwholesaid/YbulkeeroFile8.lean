/- file: the rooms grow. -/
import Derived.Test.YbulkeeroFile9
namespace Go.Proofs.Ybulkeero
open Go.RowKit Go.Joins

/-- The nodes: they lie below the index. -/
structure NodesAt (B : Nat) (w : World) (na : Option Addr) (vs : List Value) : Prop where
  src : Src w na vs
  lo : ∀ ad, na = some ad → 0 < vs.length → ad.block < B
  one : ∀ v ∈ vs, v.oneCell' = true
theorem NodesAt.fr {B : Nat} {w w' : World} {na : Option Addr} {vs : List Value} {m : Nat → Prop} (h : NodesAt B w na vs) (F : Fr w w' m) (hm : ∀ b, m b → B ≤ b) : NodesAt B w' na vs := by
  refine ⟨fun hp => ?_, h.lo, h.one⟩
  obtain ⟨ad, e, hc⟩ := h.src hp
  refine ⟨ad, e, fun j u hj => F.cell (hc j u hj) (fun x => ?_)⟩
  have h1 := hm _ x
  have h2 := h.lo ad e hp
  have h3 : (ad.add j).block = ad.block := by unfold Addr.add; split <;> rfl
  omega
theorem Fr.ofDrew {w w' : World} {m : Nat → Prop} (h : Fr w.drew w' m) : Fr w w' m := ⟨h.os, h.tape, h.output, h.size, h.block⟩
theorem Done.drew {B rb wid : Nat} {w w' : World} {S : FS} {k d c : Nat} {g' : Grp} (D : Done B rb wid w.drew S k d c g' w') : Done B rb wid w S k d c g' w' := ⟨D.at', D.fr.ofDrew, D.ft⟩
theorem exec_appendZ {ρ : Operand → Value} {o : Oper} {w w' : World} {x y : Operand} (ho : o.op = .call { callee := .builtin .append, args := #[x, y], argTypes := #[47, 3] }) {u v q : Value} (hx : ρ x = u) (hy : ρ y = v) (hr : (Builtin.append_ #[47, 3] o.type #[u, v]).run Yba.prog w = .ok q w') :
    (execOp ρ o).run Yba.prog w = .ok (.value q) w' := by
  unfold execOp
  simp [ho, resolve, invoke, builtin, hx, hy, hr, Result.andThen]
theorem store47 {ρ : Operand → Value} {o : Oper} {w : World} {x y : Operand} (ho : o.op = .store 47 x y) {b off : Nat} (hx : ρ x = .pointer (some ⟨b, off, none⟩)) {a : Option Addr} {n c : Nat} (hy : ρ y = .slice a n c) {u : Value} (hc : w.cell? ⟨b, off, none⟩ = some u) (hf : w.frozen? ⟨b, off, none⟩ = false) :
    (execOp ρ o).run Yba.prog w = .ok .skip (w.setCell ⟨b, off, none⟩ (.slice a n c)) := by
  unfold execOp
  simp [ho, hx, hy, go_sem, hc, hf]

set_option maxHeartbeats 1000000 in
set_option maxRecDepth 20000 in
theorem file8 (B rb wid nb d c k n : Nat) (w : World) (S : FS) (g : Grp) (vs : List Value) (na : Option Addr) (nc : Nat) (R : Ending → World → Prop) (h : FAt B rb wid w S) (hg : S.gs[k]? = some g) (hrn : g.rooms.n = n) (hN : NodesAt B w na vs) (hd : S.cnt[d]? = some c) (hnb : w.cell? ⟨nb, 0, none⟩ = some (.int .i64 (d : Int))) (hnf : nb ∉ S.foot) (hc : c ≤ 1000000) (hbig : n + wid ≤ 1000000000)
    (hR : ∀ w' r, r.n = n + wid → r.xs = g.rooms.xs ++ room wid vs → Done B rb wid w S k d c { g with rooms := r } w' → R (.returned (.tuple #[])) w') (u1 u3 u4 u5 u9 u10 u11 u12 u13 u14 u15 u16 u17 u18 u19 u20 u21 u22 u23 u24 u25 u26 u27 u28 u29 u30 u31 u32 u33 u34 u35 u36 u37 u38 u39 u40 u41 u42 u43 u44 u45 u46 u47 u48 u49 u50 u51 u52 u53 u54 u55 u56 u57 u58 u59 u60 u61 u62 u63 u64 u65 u66 u67 u68 u69 u70 u71 u72 u73 u74 u75 u76 u77 u78 u79 u80 u81 u82 u83 u84 u85 u86 u87 u88 u89 u90 u91 u92 u93 u94 u95 u96 u97 u98 : Value) :
    (fileC 8).wp Yba.prog (bodyPost Yba.prog Yba.f21 R) ⟨#[.pointer (some ⟨rb, 0, none⟩), u1, .slice na vs.length nc, u3, u4, u5, .pointer (some ⟨nb, 0, none⟩), .pointer (some ⟨g.b, 0, none⟩), .int .i64 (n : Int), u9, u10, u11, u12, u13, u14, u15, u16, u17, u18, u19, u20, u21, u22, u23, u24, u25, u26, u27, u28, u29, u30, u31, u32, u33, u34, u35, u36, u37, u38, u39, u40, u41, u42, u43, u44, u45, u46, u47, u48, u49, u50, u51, u52, u53, u54, u55, u56, u57, u58, u59, u60, u61, u62, u63, u64, u65, u66, u67, u68, u69, u70, u71, u72, u73, u74, u75, u76, u77, u78, u79, u80, u81, u82, u83, u84, u85, u86, u87, u88, u89, u90, u91, u92, u93, u94, u95, u96, u97, u98], []⟩ w := by
  have hgm := List.mem_of_getElem? hg
  have hd0 := h.grown (grown_drew w)
  have G := hd0.grp g hgm
  have hgl := h.lt_foot g.b (foot_of hgm (by simp [Grp.foot]))
  have hrbg : rb ≠ g.b := fun e => by have := h.ge g.b (foot_of hgm (by simp [Grp.foot])); have := h.lt; omega
  have O := h.sep.own g hgm
  change ((Code.region 12 #[{ dst := some 67, op := Op.move (Operand.tmp 7), type := 133, pos := "reach.go:158", after := #[], guard := none }, { dst := some 68, op := Op.move (Operand.tmp 7), type := 133, pos := "reach.go:158", after := #[], guard := none }, { dst := some 69, op := Op.nilCheck (Operand.tmp 68), type := 0, pos := "reach.go:158", after := #[{ on := 1, ground := Ground.data }], guard := none }, { dst := some 70, op := Op.fieldAddr 152 (Operand.tmp 69) 2, type := 0, pos := "reach.go:158", after := #[{ on := 2, ground := Ground.data }], guard := none }, { dst := some 71, op := Op.load 47 (Operand.tmp 70), type := 47, pos := "reach.go:158", after := #[{ on := 3, ground := Ground.data }], guard := none }, { dst := some 72, op := Op.move (Operand.tmp 0), type := 124, pos := "reach.go:158", after := #[], guard := none }, { dst := some 73, op := Op.nilCheck (Operand.tmp 72), type := 0, pos := "reach.go:158", after := #[{ on := 5, ground := Ground.data }], guard := none }, { dst := some 74, op := Op.fieldAddr 127 (Operand.tmp 73) 0, type := 0, pos := "reach.go:158", after := #[{ on := 6, ground := Ground.data }], guard := none }, { dst := some 75, op := Op.load 3 (Operand.tmp 74), type := 3, pos := "reach.go:158", after := #[{ on := 7, ground := Ground.data }], guard := none }, { dst := some 76, op := Op.call { callee := Callee.builtin Builtin.append, args := #[Operand.tmp 71, Operand.tmp 75], argTypes := #[47, 3] }, type := 47, pos := "reach.go:158", after := #[{ on := 4, ground := Ground.data }, { on := 8, ground := Ground.data }], guard := none }, { dst := some 77, op := Op.nilCheck (Operand.tmp 67), type := 0, pos := "reach.go:158", after := #[{ on := 0, ground := Ground.data }, { on := 0, ground := Ground.phase }, { on := 1, ground := Ground.phase }, { on := 2, ground := Ground.phase }, { on := 3, ground := Ground.phase }, { on := 4, ground := Ground.phase }, { on := 5, ground := Ground.phase }, { on := 6, ground := Ground.phase }, { on := 7, ground := Ground.phase }, { on := 8, ground := Ground.phase }, { on := 9, ground := Ground.phase }], guard := none }, { dst := some 78, op := Op.fieldAddr 152 (Operand.tmp 77) 2, type := 0, pos := "reach.go:158", after := #[{ on := 10, ground := Ground.data }, { on := 0, ground := Ground.phase }, { on := 1, ground := Ground.phase }, { on := 2, ground := Ground.phase }, { on := 3, ground := Ground.phase }, { on := 4, ground := Ground.phase }, { on := 5, ground := Ground.phase }, { on := 6, ground := Ground.phase }, { on := 7, ground := Ground.phase }, { on := 8, ground := Ground.phase }, { on := 9, ground := Ground.phase }], guard := none }, { dst := none, op := Op.store 47 (Operand.tmp 78) (Operand.tmp 76), type := 0, pos := "reach.go:158", after := #[{ on := 11, ground := Ground.data }, { on := 9, ground := Ground.data }, { on := 9, ground := Ground.chain }, { on := 0, ground := Ground.phase }, { on := 1, ground := Ground.phase }, { on := 2, ground := Ground.phase }, { on := 3, ground := Ground.phase }, { on := 4, ground := Ground.phase }, { on := 5, ground := Ground.phase }, { on := 6, ground := Ground.phase }, { on := 7, ground := Ground.phase }, { on := 8, ground := Ground.phase }, { on := 9, ground := Ground.phase }], guard := none }] true).seq (fileC 9)).wp _ _ _ _
  refine wp_seq ?_
  refine beginE [12] (fun w' : World => w'.cell? ⟨g.b, 22, none⟩ = some g.rooms.val ∧ w'.cell? ⟨rb, 0, none⟩ = some (.int .i64 (wid : Int))) (by kernel_rfl) ⟨G.c22.1, hd0.cells.1⟩ (fun hHeld => ?_)
  refine takeE 0 { dst := some 67, op := Op.move (Operand.tmp 7), type := 133, pos := "reach.go:158", after := #[], guard := none } (.pointer (some ⟨g.b, 0, none⟩)) rfl (by kernel_rfl) (by kernel_rfl) (by kernel_rfl) (by kernel_rfl) (fun _ _ _ h => h) (Or.inl ⟨by rfl, by intro w hSw; clear hSw; go_simp⟩) hHeld ?_
  simp only [Act.put, List.setIfInBounds_toArray, List.set_cons_zero, List.set_cons_succ]
  refine takeE 1 { dst := some 68, op := Op.move (Operand.tmp 7), type := 133, pos := "reach.go:158", after := #[], guard := none } (.pointer (some ⟨g.b, 0, none⟩)) rfl (by kernel_rfl) (by kernel_rfl) (by kernel_rfl) (by kernel_rfl) (fun _ _ _ h => h) (Or.inl ⟨by rfl, by intro w hSw; clear hSw; go_simp⟩) hHeld ?_
  simp only [Act.put, List.setIfInBounds_toArray, List.set_cons_zero, List.set_cons_succ]
  refine takeE 2 { dst := some 69, op := Op.nilCheck (Operand.tmp 68), type := 0, pos := "reach.go:158", after := #[{ on := 1, ground := Ground.data }], guard := none } (.pointer (some ⟨g.b, 0, none⟩)) rfl (by kernel_rfl) (by kernel_rfl) (by kernel_rfl) (by kernel_rfl) (fun _ _ _ h => h) (Or.inl ⟨by rfl, by intro w hSw; clear hSw; go_simp⟩) hHeld ?_
  simp only [Act.put, List.setIfInBounds_toArray, List.set_cons_zero, List.set_cons_succ]
  refine takeE 3 { dst := some 70, op := Op.fieldAddr 152 (Operand.tmp 69) 2, type := 0, pos := "reach.go:158", after := #[{ on := 2, ground := Ground.data }], guard := none } (.pointer (some ⟨g.b, 22, none⟩)) rfl (by kernel_rfl) (by kernel_rfl) (by kernel_rfl) (by kernel_rfl) (fun _ _ _ h => h) (Or.inl ⟨by rfl, by intro w hSw; clear hSw; go_simp⟩) hHeld ?_
  simp only [Act.put, List.setIfInBounds_toArray, List.set_cons_zero, List.set_cons_succ]
  refine takeE 4 { dst := some 71, op := Op.load 47 (Operand.tmp 70), type := 47, pos := "reach.go:158", after := #[{ on := 3, ground := Ground.data }], guard := none } (g.rooms.val) rfl (by kernel_rfl) (by kernel_rfl) (by kernel_rfl) (by kernel_rfl) (fun _ _ _ h => h) (Or.inl ⟨by rfl, fun w hSw => exec_load47 rfl rfl hSw.1⟩) hHeld ?_
  simp only [Act.put, List.setIfInBounds_toArray, List.set_cons_zero, List.set_cons_succ]
  refine takeE 5 { dst := some 72, op := Op.move (Operand.tmp 0), type := 124, pos := "reach.go:158", after := #[], guard := none } (.pointer (some ⟨rb, 0, none⟩)) rfl (by kernel_rfl) (by kernel_rfl) (by kernel_rfl) (by kernel_rfl) (fun _ _ _ h => h) (Or.inl ⟨by rfl, by intro w hSw; clear hSw; go_simp⟩) hHeld ?_
  simp only [Act.put, List.setIfInBounds_toArray, List.set_cons_zero, List.set_cons_succ]
  refine takeE 6 { dst := some 73, op := Op.nilCheck (Operand.tmp 72), type := 0, pos := "reach.go:158", after := #[{ on := 5, ground := Ground.data }], guard := none } (.pointer (some ⟨rb, 0, none⟩)) rfl (by kernel_rfl) (by kernel_rfl) (by kernel_rfl) (by kernel_rfl) (fun _ _ _ h => h) (Or.inl ⟨by rfl, by intro w hSw; clear hSw; go_simp⟩) hHeld ?_
  simp only [Act.put, List.setIfInBounds_toArray, List.set_cons_zero, List.set_cons_succ]
  refine takeE 7 { dst := some 74, op := Op.fieldAddr 127 (Operand.tmp 73) 0, type := 0, pos := "reach.go:158", after := #[{ on := 6, ground := Ground.data }], guard := none } (.pointer (some ⟨rb, 0, none⟩)) rfl (by kernel_rfl) (by kernel_rfl) (by kernel_rfl) (by kernel_rfl) (fun _ _ _ h => h) (Or.inl ⟨by rfl, by intro w hSw; clear hSw; go_simp⟩) hHeld ?_
  simp only [Act.put, List.setIfInBounds_toArray, List.set_cons_zero, List.set_cons_succ]
  refine takeE 8 { dst := some 75, op := Op.load 3 (Operand.tmp 74), type := 3, pos := "reach.go:158", after := #[{ on := 7, ground := Ground.data }], guard := none } (.int .i64 (wid : Int)) rfl (by kernel_rfl) (by kernel_rfl) (by kernel_rfl) (by kernel_rfl) (fun _ _ _ h => h) (Or.inl ⟨by rfl, by intro w hSw; have hSc := hSw.2; clear hSw; go_simp⟩) hHeld ?_
  simp only [Act.put, List.setIfInBounds_toArray, List.set_cons_zero, List.set_cons_succ]
  refine stepE 9 { dst := some 76, op := Op.call { callee := Callee.builtin Builtin.append, args := #[Operand.tmp 71, Operand.tmp 75], argTypes := #[47, 3] }, type := 47, pos := "reach.go:158", after := #[{ on := 4, ground := Ground.data }, { on := 8, ground := Ground.data }], guard := none } rfl (by kernel_rfl) (fun K hK => ?_)
  rw [if_pos (by rfl)]
  obtain ⟨a', cap', w1, hrun, hown, hgr, hat⟩ := run_zeros w.drew 47 B g.rooms.a g.rooms.n g.rooms.c wid g.rooms.xs G.rooms (by omega) hd0.size
  refine wp_value (exec_appendZ (x := .tmp 71) (y := .tmp 75) rfl rfl rfl hrun) ?_
  simp only [Act.put, List.setIfInBounds_toArray, List.set_cons_zero, List.set_cons_succ]
  obtain ⟨A2, F2, f2⟩ := hd0.rooms hg ⟨a', g.rooms.n + wid, cap', g.rooms.xs ++ zs32 wid⟩ hgr hown hat
  have hown22 : (Value.slice g.rooms.a g.rooms.n g.rooms.c).ownBlock ≠ some g.b := fun e => O.2.1 (mem_rowFoot.2 e)
  have hownrb : (Value.slice g.rooms.a g.rooms.n g.rooms.c).ownBlock ≠ some rb := fun e => by have := h.ge rb (foot_of hgm (by simp [Grp.foot, mem_rowFoot.2 (show g.rooms.val.ownBlock = some rb from e)])); have := h.lt; omega
  have hS1 := And.intro (cell_grown hHeld.1 hgr hown22) (cell_grown hHeld.2 hgr hownrb)
  refine hK _ _ (fun _ => hS1) ?_
  clear hK K
  refine stepE 10 { dst := some 77, op := Op.nilCheck (Operand.tmp 67), type := 0, pos := "reach.go:158", after := #[{ on := 0, ground := Ground.data }, { on := 0, ground := Ground.phase }, { on := 1, ground := Ground.phase }, { on := 2, ground := Ground.phase }, { on := 3, ground := Ground.phase }, { on := 4, ground := Ground.phase }, { on := 5, ground := Ground.phase }, { on := 6, ground := Ground.phase }, { on := 7, ground := Ground.phase }, { on := 8, ground := Ground.phase }, { on := 9, ground := Ground.phase }], guard := none } rfl (by kernel_rfl) (fun K hK => ?_)
  rw [if_pos (by rfl)]
  refine wp_same (.pointer (some ⟨g.b, 0, none⟩)) (by go_simp) ?_
  simp only [Act.put, List.setIfInBounds_toArray, List.set_cons_zero, List.set_cons_succ]
  refine hK _ _ (fun _ => hS1) ?_
  clear hK K
  refine stepE 11 { dst := some 78, op := Op.fieldAddr 152 (Operand.tmp 77) 2, type := 0, pos := "reach.go:158", after := #[{ on := 10, ground := Ground.data }, { on := 0, ground := Ground.phase }, { on := 1, ground := Ground.phase }, { on := 2, ground := Ground.phase }, { on := 3, ground := Ground.phase }, { on := 4, ground := Ground.phase }, { on := 5, ground := Ground.phase }, { on := 6, ground := Ground.phase }, { on := 7, ground := Ground.phase }, { on := 8, ground := Ground.phase }, { on := 9, ground := Ground.phase }], guard := none } rfl (by kernel_rfl) (fun K hK => ?_)
  rw [if_pos (by rfl)]
  refine wp_same (.pointer (some ⟨g.b, 22, none⟩)) (by go_simp) ?_
  simp only [Act.put, List.setIfInBounds_toArray, List.set_cons_zero, List.set_cons_succ]
  refine hK _ _ (fun _ => hS1) ?_
  clear hK K
  refine stepE 12 { dst := none, op := Op.store 47 (Operand.tmp 78) (Operand.tmp 76), type := 0, pos := "reach.go:158", after := #[{ on := 11, ground := Ground.data }, { on := 9, ground := Ground.data }, { on := 9, ground := Ground.chain }, { on := 0, ground := Ground.phase }, { on := 1, ground := Ground.phase }, { on := 2, ground := Ground.phase }, { on := 3, ground := Ground.phase }, { on := 4, ground := Ground.phase }, { on := 5, ground := Ground.phase }, { on := 6, ground := Ground.phase }, { on := 7, ground := Ground.phase }, { on := 8, ground := Ground.phase }, { on := 9, ground := Ground.phase }], guard := none } rfl (by kernel_rfl) (fun K hK => ?_)
  rw [if_pos (by rfl)]
  refine wp_skip' (store47 rfl rfl rfl hS1.1 (by rw [show w1.frozen? ⟨g.b, 22, none⟩ = w.drew.frozen? ⟨g.b, 22, none⟩ from World.frozen?_of_block (w := w.drew) (hgr.block g.b hgl (Ne.symm hown22))]; exact G.c22.2)) ?_
  refine hK _ _ (fun h => by cases h) (doneE (by kernel_rfl) ?_ _)
  simp only [Act.put]
  clear hK K hS1 hHeld hgr hown
  change FAt B rb wid (w1.setCell ⟨g.b, 22, none⟩ (.slice a' (g.rooms.n + wid) cap')) _ at A2
  change Fr w.drew (w1.setCell ⟨g.b, 22, none⟩ (.slice a' (g.rooms.n + wid) cap')) _ at F2
  generalize w1.setCell ⟨g.b, 22, none⟩ (.slice a' (g.rooms.n + wid) cap') = w2 at *
  have F2' : Fr w.drew w2 (fun j => j ∈ S.foot) := F2.mono (fun j hj => foot_of hgm hj)
  have hnl := block_lt_of_cell hnb
  have hkl : k < S.gs.length := (List.getElem?_eq_some_iff.1 hg).1
  subst hrn
  refine file9 B rb wid nb d c k g.rooms.n w2 _ { g with rooms := ⟨a', g.rooms.n + wid, cap', g.rooms.xs ++ zs32 wid⟩ } g.rooms.xs vs na nc R A2 (List.getElem?_set_self hkl) rfl rfl (by have := G.rooms.1; omega) (hN.fr F2'.ofDrew (fun b hb => h.ge b hb)).src hN.one hd (F2'.cell hnb hnf) (fun hm => ?_) hc (fun w' D => hR w' _ rfl rfl (Done.drew (Done.after F2' (fun b hb => ?_) D))) _ _ _ _ _ _ _ _ _ _ _ _ _ _ _ _ _ _ _ _ _ _ _ _ _ _ _ _ _ _ _ _ _ _ _ _ _ _ _ _ _ _ _ _ _ _ _ _ _ _ _ _ _ _ _ _ _ _ _ _ _ _ _ _ _ _ _ _ _ _ _ _ _ _ _ _ _ _ _ _ _ _ _ _ _ _ _ _ _ _ _ _ _ _
  · rcases foot_set (N := w.heap.size) hg f2 nb hm with h1 | h1
    · exact hnf h1
    · simp only at hnl; omega
  · rcases f2 b hb with h1 | h1
    · exact .inl (foot_of hgm h1)
    · exact .inr h1

end Go.Proofs.Ybulkeero
