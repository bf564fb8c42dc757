/- file: the group is looked up, or made. -/
import Derived.Test.YbulkeeroFile5
namespace Go.Proofs.Ybulkeero
open Go.RowKit Go.Joins

/-- What file leaves. -/
structure FileTo (B rb wid : Nat) (w : World) (S : FS) (d c : Nat) (P : List Int) (E vs : List Value) (ib : Nat) (w' : World) (S' : FS) (k : Nat) (g g' : Grp) : Prop where
  at' : FAt B rb wid w' S'
  cnt : S'.cnt = S.cnt.set d (c + 1)
  was : ((S.gs.map Grp.gr).findIdx? (hit d P) = some k ∧ S.gs[k]? = some g ∧ S'.gs = S.gs.set k g') ∨ ((S.gs.map Grp.gr).findIdx? (hit d P) = none ∧ k = S.gs.length ∧ g.d = d ∧ g.P = P ∧ g.ents = nilRow ∧ g.rooms = nilRow ∧ S'.gs = S.gs ++ [g'])
  gr : g'.gr = g.gr
  en : g'.ents.n = g.ents.n + 1
  ex : g'.ents.xs = g.ents.xs ++ E
  rn : g'.rooms.n = g.rooms.n + wid
  rx : g'.rooms.xs = g.rooms.xs ++ room wid vs
  fr : Fr w w' (fun j => j ∈ S.foot ∨ j = ib)
  ft : ∀ b ∈ S'.foot, b ∈ S.foot ∨ w.heap.size ≤ b
  item : w'.heap[ib]? = some (.cells (filed g.b g.ents.n) 137 (0, 0))

set_option maxHeartbeats 1000000 in
set_option maxRecDepth 20000 in
theorem file4hit (B rb wid nb d c k eb ib : Nat) (P : List Int) (w : World) (S : FS) (g : Grp) (E vs : List Value) (na : Option Addr) (nc : Nat) (u v : Value) (R : Ending → World → Prop) (h : FAt B rb wid w S) (hk : (S.gs.map Grp.gr).findIdx? (hit d P) = some k) (hg : S.gs[k]? = some g) (hN : NodesAt B w na vs) (hE : EntAt eb E w) (hef : eb ∉ S.foot) (hEi : E[47]? = some (.pointer (some ⟨ib, 0, none⟩))) (hib : w.heap[ib]? = some (.cells #[u, v] 137 (0, 0))) (hiB : B ≤ ib) (hif : ib ∉ S.foot) (hie : ib ≠ eb) (hin : ib ≠ nb) (hd : S.cnt[d]? = some c) (hnb : w.rangeAt nb 0 (rcells d P)) (hnf : nb ∉ S.foot) (hc : c ≤ 1000000) (hbig : g.rooms.n + wid ≤ 1000000000) (hbig2 : g.ents.n + 1 ≤ 1000000000)
    (hR : ∀ w' S' k g g', FileTo B rb wid w S d c P E vs ib w' S' k g g' → R (.returned (.tuple #[])) w') (u1 u3 u5 u8 u9 u10 u11 u12 u13 u14 u15 u16 u17 u18 u19 u20 u21 u22 u23 u24 u25 u26 u27 u28 u29 u30 u31 u32 u33 u34 u35 u36 u37 u38 u39 u40 u41 u42 u43 u44 u45 u46 u47 u48 u49 u50 u51 u52 u53 u54 u55 u56 u57 u58 u59 u60 u61 u62 u63 u64 u65 u66 u67 u68 u69 u70 u71 u72 u73 u74 u75 u76 u77 u78 u79 u80 u81 u82 u83 u84 u85 u86 u87 u88 u89 u90 u91 u92 u93 u94 u95 u96 u97 u98 : Value) :
    (fileC 4).wp Yba.prog (bodyPost Yba.prog Yba.f21 R) ⟨#[.pointer (some ⟨rb, 0, none⟩), u1, .slice na vs.length nc, u3, .pointer (some ⟨eb, 0, none⟩), u5, .pointer (some ⟨nb, 0, none⟩), .pointer (some ⟨g.b, 0, none⟩), u8, u9, u10, u11, u12, u13, u14, u15, u16, u17, u18, u19, u20, u21, u22, u23, u24, u25, u26, u27, u28, u29, u30, u31, u32, u33, u34, u35, u36, u37, u38, u39, u40, u41, u42, u43, u44, u45, u46, u47, u48, u49, u50, u51, u52, u53, u54, u55, u56, u57, u58, u59, u60, u61, u62, u63, u64, u65, u66, u67, u68, u69, u70, u71, u72, u73, u74, u75, u76, u77, u78, u79, u80, u81, u82, u83, u84, u85, u86, u87, u88, u89, u90, u91, u92, u93, u94, u95, u96, u97, u98], []⟩ w := by
  change (((Code.region 6 #[{ dst := some 29, op := Op.move (Operand.tmp 7), type := 133, pos := "reach.go:151", after := #[], guard := none }, { dst := some 30, op := Op.binOp BinOp.eql 133 (Operand.tmp 29) (Operand.const (Value.pointer none)) 133, type := 4, pos := "reach.go:151", after := #[{ on := 0, ground := Ground.data }], guard := none }] false).seq (Code.cond (Operand.tmp 30) ((Code.region 7 #[{ dst := some 31, op := Op.load 139 (Operand.tmp 6), type := 139, pos := "reach.go:152", after := #[], guard := none }, { dst := some 32, op := Op.build 152 #[(0, Operand.tmp 31)], type := 152, pos := "reach.go:152", after := #[{ on := 0, ground := Ground.data }], guard := none }, { dst := some 33, op := Op.box 152 (Operand.tmp 32), type := 133, pos := "reach.go:152", after := #[{ on := 1, ground := Ground.data }], guard := none }, { dst := some 7, op := Op.assign (Operand.tmp 33), type := 133, pos := "reach.go:152", after := #[{ on := 2, ground := Ground.data }, { on := 0, ground := Ground.phase }, { on := 1, ground := Ground.phase }, { on := 2, ground := Ground.phase }], guard := none }] false).seq (Code.region 8 #[{ dst := some 34, op := Op.move (Operand.tmp 0), type := 124, pos := "reach.go:153", after := #[], guard := none }, { dst := some 35, op := Op.nilCheck (Operand.tmp 34), type := 0, pos := "reach.go:153", after := #[{ on := 0, ground := Ground.data }], guard := none }, { dst := some 36, op := Op.fieldAddr 127 (Operand.tmp 35) 1, type := 0, pos := "reach.go:153", after := #[{ on := 1, ground := Ground.data }], guard := none }, { dst := some 37, op := Op.load 125 (Operand.tmp 36), type := 125, pos := "reach.go:153", after := #[{ on := 2, ground := Ground.data }], guard := none }, { dst := some 38, op := Op.load 139 (Operand.tmp 6), type := 139, pos := "reach.go:153", after := #[], guard := none }, { dst := some 39, op := Op.move (Operand.tmp 7), type := 133, pos := "reach.go:153", after := #[], guard := none }, { dst := none, op := Op.mapUpdate 125 (Operand.tmp 37) (Operand.tmp 38) (Operand.tmp 39), type := 0, pos := "reach.go:153", after := #[{ on := 3, ground := Ground.data }, { on := 4, ground := Ground.data }, { on := 5, ground := Ground.data }, { on := 0, ground := Ground.phase }, { on := 1, ground := Ground.phase }, { on := 2, ground := Ground.phase }, { on := 3, ground := Ground.phase }, { on := 4, ground := Ground.phase }, { on := 5, ground := Ground.phase }], guard := none }] true)) Code.skip)).seq (fileC 5)).wp _ _ _ _
  refine wp_seq (wp_seq (wp_region_list ?_))
  refine wpList_same (.pointer (some ⟨g.b, 0, none⟩)) rfl (by go_simp) ?_
  simp only [Act.put, List.setIfInBounds_toArray, List.set_cons_zero, List.set_cons_succ]
  refine wpList_same (.bool false) rfl (by go_simp) ?_
  simp only [Act.put, List.setIfInBounds_toArray, List.set_cons_zero, List.set_cons_succ]
  refine wpList_nil (wp_cond_false rfl (wp_skip ?_))
  refine file5 B rb wid nb d c k eb ib w S g E vs na nc u v R h hg hN hE hef hEi hib hiB hif hie hin hd (by have := hnb 0 _ rfl; simpa using this) hnf hc hbig hbig2 (fun w' q r h1 h2 h3 h4 D => hR w' _ k g { g with ents := q, rooms := r } ⟨D.at', rfl, .inl ⟨hk, hg, rfl⟩, rfl, h1, h2, h3, h4, D.fr, ?_, D.item⟩) _ _ _ _ _ _ _ _ _ _ _ _ _ _ _ _ _ _ _ _ _ _ _ _ _ _ _ _ _ _ _ _ _ _ _ _ _ _ _ _ _ _ _ _ _ _ _ _ _ _ _ _ _ _ _ _ _ _ _ _ _ _ _ _ _ _ _ _ _ _ _ _ _ _ _ _ _ _ _ _ _ _ _ _ _ _ _ _ _ _ _ _ _ _
  intro b hb
  simp only [FS.foot, List.mem_cons, List.mem_flatMap] at hb
  rcases hb with rfl | rfl | ⟨x, hx, hb⟩
  · exact .inl (by simp [FS.foot])
  · exact .inl (by simp [FS.foot])
  · rcases List.mem_or_eq_of_mem_set hx with hx | rfl
    · exact .inl (foot_of hx hb)
    · exact D.ft b hb

theorem build152 (w : World) (d b : Nat) (P : List Int) (hP : P.length = 20) : (Instr.build 152 #[(0, rv d P)]).run Yba.prog w = .ok (.agg (Grp.mk d P b nilRow nilRow).cells.toArray) w := by
  obtain ⟨k0, k1, k2, k3, k4, k5, k6, k7, k8, k9, k10, k11, k12, k13, k14, k15, k16, k17, k18, k19, rfl⟩ := list20 hP
  simp [go_sem, rv, rcells, by8, Grp.cells, nilRow, Row.val]
theorem exec_box {ρ : Operand → Value} {o : Oper} {w : World} {x : Operand} {t : TypeId} (ho : o.op = .box t x) {C : Array Value} (hx : ρ x = .agg C) : (execOp ρ o).run Yba.prog w = .ok (.value (.pointer (some ⟨w.heap.size, 0, none⟩))) (w.alloc (.cells C t)) := by
  unfold execOp
  simp [ho, hx, Instr.box, newVar, newRow, Value.cells]
theorem exec_mapUpdate {ρ : Operand → Value} {o : Oper} {w w' : World} {x y z : Operand} (ho : o.op = .mapUpdate 125 x y z) {a b c : Value} (hx : ρ x = a) (hy : ρ y = b) (hz : ρ z = c) (hr : (Instr.mapUpdate 125 a b c).run Yba.prog w = .ok () w') : (execOp ρ o).run Yba.prog w = .ok .skip w' := by
  unfold execOp
  simp [ho, hx, hy, hz, hr]

set_option maxHeartbeats 1000000 in
set_option maxRecDepth 20000 in
theorem file4miss (B rb wid nb d c eb ib : Nat) (P : List Int) (w : World) (S : FS) (E vs : List Value) (na : Option Addr) (nc : Nat) (u v : Value) (R : Ending → World → Prop) (h : FAt B rb wid w S) (hk : (S.gs.map Grp.gr).findIdx? (hit d P) = none) (hN : NodesAt B w na vs) (hE : EntAt eb E w) (hef : eb ∉ S.foot) (hEi : E[47]? = some (.pointer (some ⟨ib, 0, none⟩))) (hib : w.heap[ib]? = some (.cells #[u, v] 137 (0, 0))) (hiB : B ≤ ib) (hif : ib ∉ S.foot) (hie : ib ≠ eb) (hin : ib ≠ nb) (hd : S.cnt[d]? = some c) (hnb : w.rangeAt nb 0 (rcells d P)) (hP : P.length = 20) (hnf : nb ∉ S.foot) (hc : c ≤ 1000000) (hnl : nb < w.heap.size) (hbig : wid ≤ 1000)
    (hR : ∀ w' S' k g g', FileTo B rb wid w S d c P E vs ib w' S' k g g' → R (.returned (.tuple #[])) w') (u1 u3 u5 u8 u9 u10 u11 u12 u13 u14 u15 u16 u17 u18 u19 u20 u21 u22 u23 u24 u25 u26 u27 u28 u29 u30 u31 u32 u33 u34 u35 u36 u37 u38 u39 u40 u41 u42 u43 u44 u45 u46 u47 u48 u49 u50 u51 u52 u53 u54 u55 u56 u57 u58 u59 u60 u61 u62 u63 u64 u65 u66 u67 u68 u69 u70 u71 u72 u73 u74 u75 u76 u77 u78 u79 u80 u81 u82 u83 u84 u85 u86 u87 u88 u89 u90 u91 u92 u93 u94 u95 u96 u97 u98 : Value) :
    (fileC 4).wp Yba.prog (bodyPost Yba.prog Yba.f21 R) ⟨#[.pointer (some ⟨rb, 0, none⟩), u1, .slice na vs.length nc, u3, .pointer (some ⟨eb, 0, none⟩), u5, .pointer (some ⟨nb, 0, none⟩), .pointer none, u8, u9, u10, u11, u12, u13, u14, u15, u16, u17, u18, u19, u20, u21, u22, u23, u24, u25, u26, u27, u28, u29, u30, u31, u32, u33, u34, u35, u36, u37, u38, u39, u40, u41, u42, u43, u44, u45, u46, u47, u48, u49, u50, u51, u52, u53, u54, u55, u56, u57, u58, u59, u60, u61, u62, u63, u64, u65, u66, u67, u68, u69, u70, u71, u72, u73, u74, u75, u76, u77, u78, u79, u80, u81, u82, u83, u84, u85, u86, u87, u88, u89, u90, u91, u92, u93, u94, u95, u96, u97, u98], []⟩ w := by
  have hfl := h.lt_foot
  change (((Code.region 6 #[{ dst := some 29, op := Op.move (Operand.tmp 7), type := 133, pos := "reach.go:151", after := #[], guard := none }, { dst := some 30, op := Op.binOp BinOp.eql 133 (Operand.tmp 29) (Operand.const (Value.pointer none)) 133, type := 4, pos := "reach.go:151", after := #[{ on := 0, ground := Ground.data }], guard := none }] false).seq (Code.cond (Operand.tmp 30) ((Code.region 7 #[{ dst := some 31, op := Op.load 139 (Operand.tmp 6), type := 139, pos := "reach.go:152", after := #[], guard := none }, { dst := some 32, op := Op.build 152 #[(0, Operand.tmp 31)], type := 152, pos := "reach.go:152", after := #[{ on := 0, ground := Ground.data }], guard := none }, { dst := some 33, op := Op.box 152 (Operand.tmp 32), type := 133, pos := "reach.go:152", after := #[{ on := 1, ground := Ground.data }], guard := none }, { dst := some 7, op := Op.assign (Operand.tmp 33), type := 133, pos := "reach.go:152", after := #[{ on := 2, ground := Ground.data }, { on := 0, ground := Ground.phase }, { on := 1, ground := Ground.phase }, { on := 2, ground := Ground.phase }], guard := none }] false).seq (Code.region 8 #[{ dst := some 34, op := Op.move (Operand.tmp 0), type := 124, pos := "reach.go:153", after := #[], guard := none }, { dst := some 35, op := Op.nilCheck (Operand.tmp 34), type := 0, pos := "reach.go:153", after := #[{ on := 0, ground := Ground.data }], guard := none }, { dst := some 36, op := Op.fieldAddr 127 (Operand.tmp 35) 1, type := 0, pos := "reach.go:153", after := #[{ on := 1, ground := Ground.data }], guard := none }, { dst := some 37, op := Op.load 125 (Operand.tmp 36), type := 125, pos := "reach.go:153", after := #[{ on := 2, ground := Ground.data }], guard := none }, { dst := some 38, op := Op.load 139 (Operand.tmp 6), type := 139, pos := "reach.go:153", after := #[], guard := none }, { dst := some 39, op := Op.move (Operand.tmp 7), type := 133, pos := "reach.go:153", after := #[], guard := none }, { dst := none, op := Op.mapUpdate 125 (Operand.tmp 37) (Operand.tmp 38) (Operand.tmp 39), type := 0, pos := "reach.go:153", after := #[{ on := 3, ground := Ground.data }, { on := 4, ground := Ground.data }, { on := 5, ground := Ground.data }, { on := 0, ground := Ground.phase }, { on := 1, ground := Ground.phase }, { on := 2, ground := Ground.phase }, { on := 3, ground := Ground.phase }, { on := 4, ground := Ground.phase }, { on := 5, ground := Ground.phase }], guard := none }] true)) Code.skip)).seq (fileC 5)).wp _ _ _ _
  refine wp_seq (wp_seq (wp_region_list ?_))
  refine wpList_same (.pointer none) rfl (by go_simp) ?_
  simp only [Act.put, List.setIfInBounds_toArray, List.set_cons_zero, List.set_cons_succ]
  refine wpList_same (.bool true) rfl (by go_simp) ?_
  simp only [Act.put, List.setIfInBounds_toArray, List.set_cons_zero, List.set_cons_succ]
  refine wpList_nil (wp_cond_true rfl (wp_seq (wp_region_list ?_)))
  refine wpList_value rfl (exec_load139 rfl rfl hP hnb) ?_
  simp only [Act.put, List.setIfInBounds_toArray, List.set_cons_zero, List.set_cons_succ]
  refine wpList_value rfl (exec_build rfl (build152 w d w.heap.size P hP) (by simp [Act.eval])) ?_
  simp only [Act.put, List.setIfInBounds_toArray, List.set_cons_zero, List.set_cons_succ]
  refine wpList_value rfl (exec_box rfl rfl) ?_
  simp only [Act.put, List.setIfInBounds_toArray, List.set_cons_zero, List.set_cons_succ]
  refine wpList_same (.pointer (some ⟨w.heap.size, 0, none⟩)) rfl (by go_simp) ?_
  simp only [Act.put, List.setIfInBounds_toArray, List.set_cons_zero, List.set_cons_succ]
  refine wpList_nil ?_
  have hg1 : w.grownBy (w.alloc (.cells (Grp.mk d P w.heap.size nilRow nilRow).cells.toArray 152)) none := grown_alloc _ _ _
  have hb1 : (w.alloc (.cells (Grp.mk d P w.heap.size nilRow nilRow).cells.toArray 152)).heap[w.heap.size]? = some (.cells (Grp.mk d P w.heap.size nilRow nilRow).cells.toArray 152 (0, 0)) := heap_new w _
  generalize w.alloc (.cells (Grp.mk d P w.heap.size nilRow nilRow).cells.toArray 152) = w1 at *
  have A1 := (h.grown hg1).grown (grown_drew w1)
  have hnb1 : w1.drew.rangeAt nb 0 (rcells d P) := (World.rangeAt_drew _ _ _ _).2 (range_grown hnb hg1 (by simp))
  have hmb : S.mb ∈ S.foot := by simp [FS.foot]
  have hrm : rb ≠ S.mb := fun e => by have := h.ge _ hmb; have := h.lt; omega
  have hnm : nb ≠ S.mb := fun e => hnf (e ▸ hmb)
  refine beginE [] (fun w' : World => w'.cell? ⟨rb, 1, none⟩ = some (.map (some S.mb)) ∧ w'.rangeAt nb 0 (rcells d P)) (by kernel_rfl) ⟨A1.cells.2.1, hnb1⟩ (fun hHeld => ?_)
  refine takeE 0 { dst := some 34, op := Op.move (Operand.tmp 0), type := 124, pos := "reach.go:153", after := #[], guard := none } (.pointer (some ⟨rb, 0, none⟩)) rfl (by kernel_rfl) (by kernel_rfl) (by kernel_rfl) (by kernel_rfl) (fun _ _ _ h => h) (Or.inl ⟨by rfl, by intro w hSw; clear hSw; go_simp⟩) hHeld ?_
  simp only [Act.put, List.setIfInBounds_toArray, List.set_cons_zero, List.set_cons_succ]
  refine takeE 1 { dst := some 35, op := Op.nilCheck (Operand.tmp 34), type := 0, pos := "reach.go:153", after := #[{ on := 0, ground := Ground.data }], guard := none } (.pointer (some ⟨rb, 0, none⟩)) rfl (by kernel_rfl) (by kernel_rfl) (by kernel_rfl) (by kernel_rfl) (fun _ _ _ h => h) (Or.inl ⟨by rfl, by intro w hSw; clear hSw; go_simp⟩) hHeld ?_
  simp only [Act.put, List.setIfInBounds_toArray, List.set_cons_zero, List.set_cons_succ]
  refine takeE 2 { dst := some 36, op := Op.fieldAddr 127 (Operand.tmp 35) 1, type := 0, pos := "reach.go:153", after := #[{ on := 1, ground := Ground.data }], guard := none } (.pointer (some ⟨rb, 1, none⟩)) rfl (by kernel_rfl) (by kernel_rfl) (by kernel_rfl) (by kernel_rfl) (fun _ _ _ h => h) (Or.inl ⟨by rfl, by intro w hSw; clear hSw; go_simp⟩) hHeld ?_
  simp only [Act.put, List.setIfInBounds_toArray, List.set_cons_zero, List.set_cons_succ]
  refine takeE 3 { dst := some 37, op := Op.load 125 (Operand.tmp 36), type := 125, pos := "reach.go:153", after := #[{ on := 2, ground := Ground.data }], guard := none } (.map (some S.mb)) rfl (by kernel_rfl) (by kernel_rfl) (by kernel_rfl) (by kernel_rfl) (fun _ _ _ h => h) (Or.inl ⟨by rfl, by intro w hSw; have hSc := hSw.1; clear hSw; go_simp⟩) hHeld ?_
  simp only [Act.put, List.setIfInBounds_toArray, List.set_cons_zero, List.set_cons_succ]
  refine takeE 4 { dst := some 38, op := Op.load 139 (Operand.tmp 6), type := 139, pos := "reach.go:153", after := #[], guard := none } (rv d P) rfl (by kernel_rfl) (by kernel_rfl) (by kernel_rfl) (by kernel_rfl) (fun _ _ _ h => h) (Or.inl ⟨by rfl, fun w hSw => exec_load139 rfl rfl hP hSw.2⟩) hHeld ?_
  simp only [Act.put, List.setIfInBounds_toArray, List.set_cons_zero, List.set_cons_succ]
  refine takeE 5 { dst := some 39, op := Op.move (Operand.tmp 7), type := 133, pos := "reach.go:153", after := #[], guard := none } (.pointer (some ⟨w.heap.size, 0, none⟩)) rfl (by kernel_rfl) (by kernel_rfl) (by kernel_rfl) (by kernel_rfl) (fun _ _ _ h => h) (Or.inl ⟨by rfl, by intro w hSw; clear hSw; go_simp⟩) hHeld ?_
  simp only [Act.put, List.setIfInBounds_toArray, List.set_cons_zero, List.set_cons_succ]
  refine stepE 6 { dst := none, op := Op.mapUpdate 125 (Operand.tmp 37) (Operand.tmp 38) (Operand.tmp 39), type := 0, pos := "reach.go:153", after := #[{ on := 3, ground := Ground.data }, { on := 4, ground := Ground.data }, { on := 5, ground := Ground.data }, { on := 0, ground := Ground.phase }, { on := 1, ground := Ground.phase }, { on := 2, ground := Ground.phase }, { on := 3, ground := Ground.phase }, { on := 4, ground := Ground.phase }, { on := 5, ground := Ground.phase }], guard := none } rfl (by kernel_rfl) (fun K hK => ?_)
  rw [if_pos (by rfl)]
  obtain ⟨es, clock, hm, his⟩ := A1.map
  refine wp_skip' (exec_mapUpdate (x := .tmp 37) (y := .tmp 38) (z := .tmp 39) rfl rfl rfl rfl (update139 w1.drew S.mb d clock P hP es _ hm his hk (.pointer (some ⟨w.heap.size, 0, none⟩)))) ?_
  have A2 := A1.pushG (d := d) (P := P) (b := w.heap.size) hm his hP hb1 (fun hb => by have := hfl _ hb; omega) h.size
  have hg2 := putO_grown w1.drew S.mb (.map (es.push { key := rv d P, val := .pointer (some ⟨w.heap.size, 0, none⟩), born := clock }) (clock + 1))
  generalize putO w1.drew S.mb (.map (es.push { key := rv d P, val := .pointer (some ⟨w.heap.size, 0, none⟩), born := clock }) (clock + 1)) = w2 at *
  refine hK _ _ (fun _ => ⟨cell_grown hHeld.1 hg2 (by simpa using Ne.symm hrm), range_grown hHeld.2 hg2 (by simpa using Ne.symm hnm)⟩) (doneE (by kernel_rfl) ?_ _)
  simp only [Act.put]
  have hnb2 := range_grown hHeld.2 hg2 (by simpa using Ne.symm hnm)
  clear hK K hHeld
  have F : Fr w w2 (fun j => j = S.mb) := ((fr_of_grown hg1).chain (fr_of_grown (grown_drew w1)) (m := fun _ => False) (fun _ e => e) (fun _ _ e => e)).chain (fr_at hg2) (fun _ e => e.elim) (fun _ _ e => e)
  have hfoot2 : ∀ b ∈ (FS.mk S.mb S.db (S.gs ++ [⟨d, P, w.heap.size, nilRow, nilRow⟩]) S.cnt).foot, b ∈ S.foot ∨ w.heap.size ≤ b := by
    intro b hb
    simp only [FS.foot, List.mem_cons, List.mem_flatMap] at hb
    rcases hb with rfl | rfl | ⟨x, hx, hb⟩
    · exact .inl (by simp [FS.foot])
    · exact .inl (by simp [FS.foot])
    · rcases List.mem_append.1 hx with hx | hx
      · exact .inl (foot_of hx hb)
      · rw [List.mem_singleton.1 hx] at hb
        have : b = w.heap.size := List.mem_singleton.1 hb
        exact .inr (by omega)
  have hnot : ∀ b, b ∉ S.foot → b < w.heap.size → b ∉ (FS.mk S.mb S.db (S.gs ++ [⟨d, P, w.heap.size, nilRow, nilRow⟩]) S.cnt).foot := fun b h1 h2 h3 => by
    rcases hfoot2 b h3 with e | e
    · exact h1 e
    · omega
  have hilt : ib < w.heap.size := (Array.getElem?_eq_some_iff.1 hib).1
  have him : ib ≠ S.mb := fun e => hif (e ▸ hmb)
  have hem : eb ≠ S.mb := fun e => hef (e ▸ hmb)
  have E2 : EntAt eb E w2 := ⟨fun j v hj => F.cell (hE.box j v hj) hem, Nat.lt_of_lt_of_le hE.lt F.size, hE.len, hE.one⟩
  refine file5 B rb wid nb d c S.gs.length eb ib w2 _ ⟨d, P, w.heap.size, nilRow, nilRow⟩ E vs na nc u v R A2 (by simp) (hN.fr F (fun b e => by rw [e]; exact h.ge _ hmb)) E2 (hnot _ hef hE.lt) hEi (by rw [F.block ib hilt him]; exact hib) hiB (hnot _ hif hilt) hie hin hd (by have := hnb2 0 _ rfl; simpa using this) (hnot _ hnf hnl) hc (by show 0 + wid ≤ _; omega) (by show 0 + 1 ≤ _; omega) (fun w' q r h1 h2 h3 h4 D => hR w' _ S.gs.length ⟨d, P, w.heap.size, nilRow, nilRow⟩ ⟨d, P, w.heap.size, q, r⟩ ⟨D.at', rfl, .inr ⟨hk, rfl, rfl, rfl, rfl, rfl, by simp⟩, rfl, h1, h2, h3, h4, F.chain D.fr (fun j e => .inl (e ▸ hmb)) (fun j hj e => ?_), ?_, D.item⟩) _ _ _ _ _ _ _ _ _ _ _ _ _ _ _ _ _ _ _ _ _ _ _ _ _ _ _ _ _ _ _ _ _ _ _ _ _ _ _ _ _ _ _ _ _ _ _ _ _ _ _ _ _ _ _ _ _ _ _ _ _ _ _ _ _ _ _ _ _ _ _ _ _ _ _ _ _ _ _ _ _ _ _ _ _ _ _ _ _ _ _ _ _ _
  · rcases e with e | e
    · rcases hfoot2 j e with e | e
      · exact .inl e
      · omega
    · exact .inr e
  · intro b hb
    simp only [FS.foot, List.mem_cons, List.mem_flatMap] at hb
    rcases hb with rfl | rfl | ⟨x, hx, hb⟩
    · exact .inl (by simp [FS.foot])
    · exact .inl (by simp [FS.foot])
    · rcases List.mem_or_eq_of_mem_set hx with hx | rfl
      · exact hfoot2 b (foot_of (S := FS.mk S.mb S.db (S.gs ++ [⟨d, P, w.heap.size, nilRow, nilRow⟩]) S.cnt) hx hb)
      · rcases D.ft b hb with e | e
        · exact hfoot2 b e
        · exact .inr (Nat.le_trans F.size e)

end Go.Proofs.Ybulkeero
