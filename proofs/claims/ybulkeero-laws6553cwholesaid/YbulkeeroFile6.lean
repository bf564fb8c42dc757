/- file: the entry is appended. -/
import Derived.Test.YbulkeeroFile8
namespace Go.Proofs.Ybulkeero
open Go.RowKit Go.Joins

theorem exec_len47 {ρ : Operand → Value} {o : Oper} {w : World} {x : Operand} (ho : o.op = .call { callee := .builtin .len, args := #[x], argTypes := #[47] }) {r : Row} (hx : ρ x = r.val) : (execOp ρ o).run Yba.prog w = .ok (.value (.int .i64 (r.n : Int))) w := by
  unfold Row.val at hx
  unfold execOp
  simp [ho, hx, go_sem]

set_option maxHeartbeats 1000000 in
set_option maxRecDepth 20000 in
theorem file7 (B rb wid nb d c k : Nat) (w : World) (S : FS) (g : Grp) (vs : List Value) (na : Option Addr) (nc : Nat) (R : Ending → World → Prop) (h : FAt B rb wid w S) (hg : S.gs[k]? = some g) (hN : NodesAt B w na vs) (hd : S.cnt[d]? = some c) (hnb : w.cell? ⟨nb, 0, none⟩ = some (.int .i64 (d : Int))) (hnf : nb ∉ S.foot) (hc : c ≤ 1000000) (hbig : g.rooms.n + wid ≤ 1000000000)
    (hR : ∀ w' r, r.n = g.rooms.n + wid → r.xs = g.rooms.xs ++ room wid vs → Done B rb wid w S k d c { g with rooms := r } w' → R (.returned (.tuple #[])) w') (u1 u3 u4 u5 u8 u9 u10 u11 u12 u13 u14 u15 u16 u17 u18 u19 u20 u21 u22 u23 u24 u25 u26 u27 u28 u29 u30 u31 u32 u33 u34 u35 u36 u37 u38 u39 u40 u41 u42 u43 u44 u45 u46 u47 u48 u49 u50 u51 u52 u53 u54 u55 u56 u57 u58 u59 u60 u61 u62 u63 u64 u65 u66 u67 u68 u69 u70 u71 u72 u73 u74 u75 u76 u77 u78 u79 u80 u81 u82 u83 u84 u85 u86 u87 u88 u89 u90 u91 u92 u93 u94 u95 u96 u97 u98 : Value) :
    (fileC 7).wp Yba.prog (bodyPost Yba.prog Yba.f21 R) ⟨#[.pointer (some ⟨rb, 0, none⟩), u1, .slice na vs.length nc, u3, u4, u5, .pointer (some ⟨nb, 0, none⟩), .pointer (some ⟨g.b, 0, none⟩), u8, u9, u10, u11, u12, u13, u14, u15, u16, u17, u18, u19, u20, u21, u22, u23, u24, u25, u26, u27, u28, u29, u30, u31, u32, u33, u34, u35, u36, u37, u38, u39, u40, u41, u42, u43, u44, u45, u46, u47, u48, u49, u50, u51, u52, u53, u54, u55, u56, u57, u58, u59, u60, u61, u62, u63, u64, u65, u66, u67, u68, u69, u70, u71, u72, u73, u74, u75, u76, u77, u78, u79, u80, u81, u82, u83, u84, u85, u86, u87, u88, u89, u90, u91, u92, u93, u94, u95, u96, u97, u98], []⟩ w := by
  have hgm := List.mem_of_getElem? hg
  have G := h.grp g hgm
  change ((Code.region 11 #[{ dst := some 62, op := Op.move (Operand.tmp 7), type := 133, pos := "reach.go:157", after := #[], guard := none }, { dst := some 63, op := Op.nilCheck (Operand.tmp 62), type := 0, pos := "reach.go:157", after := #[{ on := 0, ground := Ground.data }], guard := none }, { dst := some 64, op := Op.fieldAddr 152 (Operand.tmp 63) 2, type := 0, pos := "reach.go:157", after := #[{ on := 1, ground := Ground.data }], guard := none }, { dst := some 65, op := Op.load 47 (Operand.tmp 64), type := 47, pos := "reach.go:157", after := #[{ on := 2, ground := Ground.data }], guard := none }, { dst := some 66, op := Op.call { callee := Callee.builtin Builtin.len, args := #[Operand.tmp 65], argTypes := #[47] }, type := 3, pos := "reach.go:157", after := #[{ on := 3, ground := Ground.data }], guard := none }, { dst := some 8, op := Op.assign (Operand.tmp 66), type := 3, pos := "reach.go:157", after := #[{ on := 4, ground := Ground.data }, { on := 0, ground := Ground.phase }, { on := 1, ground := Ground.phase }, { on := 2, ground := Ground.phase }, { on := 3, ground := Ground.phase }, { on := 4, ground := Ground.phase }], guard := none }] false).seq (fileC 8)).wp _ _ _ _
  refine wp_seq (wp_region_list ?_)
  refine wpList_same (.pointer (some ⟨g.b, 0, none⟩)) rfl (by go_simp) ?_
  simp only [Act.put, List.setIfInBounds_toArray, List.set_cons_zero, List.set_cons_succ]
  refine wpList_same (.pointer (some ⟨g.b, 0, none⟩)) rfl (by go_simp) ?_
  simp only [Act.put, List.setIfInBounds_toArray, List.set_cons_zero, List.set_cons_succ]
  refine wpList_same (.pointer (some ⟨g.b, 22, none⟩)) rfl (by go_simp) ?_
  simp only [Act.put, List.setIfInBounds_toArray, List.set_cons_zero, List.set_cons_succ]
  refine wpList_value rfl (exec_load47 rfl rfl G.c22.1) ?_
  simp only [Act.put, List.setIfInBounds_toArray, List.set_cons_zero, List.set_cons_succ]
  refine wpList_value rfl (exec_len47 (r := g.rooms) rfl rfl) ?_
  simp only [Act.put, List.setIfInBounds_toArray, List.set_cons_zero, List.set_cons_succ]
  refine wpList_same (.int .i64 (g.rooms.n : Int)) rfl (by go_simp) ?_
  simp only [Act.put, List.setIfInBounds_toArray, List.set_cons_zero, List.set_cons_succ]
  exact wpList_nil (file8 B rb wid nb d c k g.rooms.n w S g vs na nc R h hg rfl hN hd hnb hnf hc hbig hR _ _ _ _ _ _ _ _ _ _ _ _ _ _ _ _ _ _ _ _ _ _ _ _ _ _ _ _ _ _ _ _ _ _ _ _ _ _ _ _ _ _ _ _ _ _ _ _ _ _ _ _ _ _ _ _ _ _ _ _ _ _ _ _ _ _ _ _ _ _ _ _ _ _ _ _ _ _ _ _ _ _ _ _ _ _ _ _ _ _ _ _ _ _)

theorem Yba.row145 : (Yba.prog.info? 145).map (fun i => (i.zero.map (·.cells.size), i.size, i.bytes)) = some (some 48, 48, 72) := by kernel_rfl
theorem Yba.size145 : (Yba.prog.info? 145).map (·.size) = some 48 := by kernel_rfl
theorem buildSlice145 (w : World) (E : List Value) (hE : E.length = 48) :
    (Instr.buildSlice 150 1 #[(0, .agg E.toArray)]).run Yba.prog w = .ok (.slice (some ⟨w.heap.size, 0, none⟩) 1 1) (w.alloc (.cells E.toArray 145)) := by
  obtain ⟨i, hi, he⟩ := Option.map_eq_some_iff.1 Yba.row145
  simp only [Prod.mk.injEq] at he
  obtain ⟨hz, hs, -⟩ := he
  obtain ⟨z, hz1, hz2⟩ := Option.map_eq_some_iff.1 hz
  have hf : ∀ Z : Array Value, Z.size = 48 → Instr.fill (fun i => some (i * 48, 48)) Z [(0, .agg E.toArray)] = some E.toArray := by
    intro Z hZ
    have e := fill_cons (place := fun i => some (i * 48, 48)) (L := Z.toList) (i := 0) (off := 0) (size := 48) (v := .agg E.toArray) (vs := E) (rest := []) rfl rfl hE (by simp [hE, hZ])
    have e2 : laid Z.toList 0 E = E := by simp [laid, hE, hZ]
    rw [e2] at e
    exact e
  have hf' := hf ((Array.range 48).map (fun j => z.cells[j % z.cells.size]!)) (by simp)
  rw [hz2] at hf'
  simp [Instr.buildSlice, run_underlying Yba.underlying150, sizeOf, typeInfo, zeroValue, hi, hs, hz1, hz2, hf', newRow]
theorem exec_buildSlice145 {ρ : Operand → Value} {o : Oper} {w : World} {x : Operand} (ho : o.op = .buildSlice 150 1 #[(0, x)]) {E : List Value} (hE : E.length = 48) (hx : ρ x = .agg E.toArray) :
    (execOp ρ o).run Yba.prog w = .ok (.value (.slice (some ⟨w.heap.size, 0, none⟩) 1 1)) (w.alloc (.cells E.toArray 145)) := by
  unfold execOp
  simp only [ho, List.map_toArray, List.map_cons, List.map_nil, hx, Sem.run_bind, buildSlice145 w E hE, Result.andThen_ok, Sem.run_pure]
theorem exec_load145 {ρ : Operand → Value} {o : Oper} {w : World} {x : Operand} (ho : o.op = .load 145 x) {b off : Nat} (hx : ρ x = .pointer (some ⟨b, off, none⟩)) {E : List Value} (hl : E.length = 48) (hc : w.rangeAt b off E) : (execOp ρ o).run Yba.prog w = .ok (.value (.agg E.toArray)) w :=
  exec_load_mid 145 x ho b off hx E _ hc Yba.underlying145 rfl (by rw [hl]; exact Yba.size145)
theorem exec_load150 {ρ : Operand → Value} {o : Oper} {w : World} {x : Operand} (ho : o.op = .load 150 x) {b off : Nat} (hx : ρ x = .pointer (some ⟨b, off, none⟩)) {r : Row} (hc : w.cell? ⟨b, off, none⟩ = some r.val) : (execOp ρ o).run Yba.prog w = .ok (.value r.val) w := by
  unfold Row.val at *
  unfold execOp
  simp [ho, hx, go_sem, hc]
theorem store150 {ρ : Operand → Value} {o : Oper} {w : World} {x y : Operand} (ho : o.op = .store 150 x y) {b off : Nat} (hx : ρ x = .pointer (some ⟨b, off, none⟩)) {a : Option Addr} {n c : Nat} (hy : ρ y = .slice a n c) {u : Value} (hc : w.cell? ⟨b, off, none⟩ = some u) (hf : w.frozen? ⟨b, off, none⟩ = false) :
    (execOp ρ o).run Yba.prog w = .ok .skip (w.setCell ⟨b, off, none⟩ (.slice a n c)) := by
  unfold execOp
  simp [ho, hx, hy, go_sem, hc, hf]
/-- The entry, in its box. -/
structure EntAt (eb : Nat) (E : List Value) (w : World) : Prop where
  box : w.rangeAt eb 0 E
  lt : eb < w.heap.size
  len : E.length = 48
  one : ∀ v ∈ E, v.oneCell' = true

set_option maxHeartbeats 1000000 in
set_option maxRecDepth 20000 in
theorem file6 (B rb wid nb d c k eb : Nat) (w : World) (S : FS) (g : Grp) (E vs : List Value) (na : Option Addr) (nc : Nat) (R : Ending → World → Prop) (h : FAt B rb wid w S) (hg : S.gs[k]? = some g) (hN : NodesAt B w na vs) (hE : EntAt eb E w) (hef : eb ∉ S.foot) (hd : S.cnt[d]? = some c) (hnb : w.cell? ⟨nb, 0, none⟩ = some (.int .i64 (d : Int))) (hnf : nb ∉ S.foot) (hc : c ≤ 1000000) (hbig : g.rooms.n + wid ≤ 1000000000) (hbig2 : g.ents.n + 1 ≤ 1000000000)
    (hR : ∀ w' q r, q.n = g.ents.n + 1 → q.xs = g.ents.xs ++ E → r.n = g.rooms.n + wid → r.xs = g.rooms.xs ++ room wid vs → Done B rb wid w S k d c { g with ents := q, rooms := r } w' → R (.returned (.tuple #[])) w') (u1 u3 u5 u8 u9 u10 u11 u12 u13 u14 u15 u16 u17 u18 u19 u20 u21 u22 u23 u24 u25 u26 u27 u28 u29 u30 u31 u32 u33 u34 u35 u36 u37 u38 u39 u40 u41 u42 u43 u44 u45 u46 u47 u48 u49 u50 u51 u52 u53 u54 u55 u56 u57 u58 u59 u60 u61 u62 u63 u64 u65 u66 u67 u68 u69 u70 u71 u72 u73 u74 u75 u76 u77 u78 u79 u80 u81 u82 u83 u84 u85 u86 u87 u88 u89 u90 u91 u92 u93 u94 u95 u96 u97 u98 : Value) :
    (fileC 6).wp Yba.prog (bodyPost Yba.prog Yba.f21 R) ⟨#[.pointer (some ⟨rb, 0, none⟩), u1, .slice na vs.length nc, u3, .pointer (some ⟨eb, 0, none⟩), u5, .pointer (some ⟨nb, 0, none⟩), .pointer (some ⟨g.b, 0, none⟩), u8, u9, u10, u11, u12, u13, u14, u15, u16, u17, u18, u19, u20, u21, u22, u23, u24, u25, u26, u27, u28, u29, u30, u31, u32, u33, u34, u35, u36, u37, u38, u39, u40, u41, u42, u43, u44, u45, u46, u47, u48, u49, u50, u51, u52, u53, u54, u55, u56, u57, u58, u59, u60, u61, u62, u63, u64, u65, u66, u67, u68, u69, u70, u71, u72, u73, u74, u75, u76, u77, u78, u79, u80, u81, u82, u83, u84, u85, u86, u87, u88, u89, u90, u91, u92, u93, u94, u95, u96, u97, u98], []⟩ w := by
  have hgm := List.mem_of_getElem? hg
  have hd0 := h.grown (grown_drew w)
  have G := hd0.grp g hgm
  have hgl := h.lt_foot g.b (foot_of hgm (by simp [Grp.foot]))
  have O := h.sep.own g hgm
  have hebx : w.drew.rangeAt eb 0 E := (World.rangeAt_drew _ _ _ _).2 hE.box
  change ((Code.region 10 #[{ dst := some 52, op := Op.move (Operand.tmp 7), type := 133, pos := "reach.go:156", after := #[], guard := none }, { dst := some 53, op := Op.move (Operand.tmp 7), type := 133, pos := "reach.go:156", after := #[], guard := none }, { dst := some 54, op := Op.nilCheck (Operand.tmp 53), type := 0, pos := "reach.go:156", after := #[{ on := 1, ground := Ground.data }], guard := none }, { dst := some 55, op := Op.fieldAddr 152 (Operand.tmp 54) 1, type := 0, pos := "reach.go:156", after := #[{ on := 2, ground := Ground.data }], guard := none }, { dst := some 56, op := Op.load 150 (Operand.tmp 55), type := 150, pos := "reach.go:156", after := #[{ on := 3, ground := Ground.data }], guard := none }, { dst := some 57, op := Op.load 145 (Operand.tmp 4), type := 145, pos := "reach.go:156", after := #[], guard := none }, { dst := some 58, op := Op.buildSlice 150 1 #[(0, Operand.tmp 57)], type := 150, pos := "reach.go:156", after := #[{ on := 5, ground := Ground.data }], guard := none }, { dst := some 59, op := Op.call { callee := Callee.builtin Builtin.append, args := #[Operand.tmp 56, Operand.tmp 58], argTypes := #[150, 150] }, type := 150, pos := "reach.go:156", after := #[{ on := 4, ground := Ground.data }, { on := 6, ground := Ground.data }], guard := none }, { dst := some 60, op := Op.nilCheck (Operand.tmp 52), type := 0, pos := "reach.go:156", after := #[{ on := 0, ground := Ground.data }, { on := 0, ground := Ground.phase }, { on := 1, ground := Ground.phase }, { on := 2, ground := Ground.phase }, { on := 3, ground := Ground.phase }, { on := 4, ground := Ground.phase }, { on := 5, ground := Ground.phase }, { on := 6, ground := Ground.phase }, { on := 7, ground := Ground.phase }], guard := none }, { dst := some 61, op := Op.fieldAddr 152 (Operand.tmp 60) 1, type := 0, pos := "reach.go:156", after := #[{ on := 8, ground := Ground.data }, { on := 0, ground := Ground.phase }, { on := 1, ground := Ground.phase }, { on := 2, ground := Ground.phase }, { on := 3, ground := Ground.phase }, { on := 4, ground := Ground.phase }, { on := 5, ground := Ground.phase }, { on := 6, ground := Ground.phase }, { on := 7, ground := Ground.phase }], guard := none }, { dst := none, op := Op.store 150 (Operand.tmp 61) (Operand.tmp 59), type := 0, pos := "reach.go:156", after := #[{ on := 9, ground := Ground.data }, { on := 7, ground := Ground.data }, { on := 7, ground := Ground.chain }, { on := 0, ground := Ground.phase }, { on := 1, ground := Ground.phase }, { on := 2, ground := Ground.phase }, { on := 3, ground := Ground.phase }, { on := 4, ground := Ground.phase }, { on := 5, ground := Ground.phase }, { on := 6, ground := Ground.phase }, { on := 7, ground := Ground.phase }], guard := none }] true).seq (fileC 7)).wp _ _ _ _
  refine wp_seq ?_
  refine beginE [10] (fun w' : World => w'.cell? ⟨g.b, 21, none⟩ = some g.ents.val ∧ w'.rangeAt eb 0 E) (by kernel_rfl) ⟨G.c21.1, hebx⟩ (fun hHeld => ?_)
  refine takeE 0 { dst := some 52, op := Op.move (Operand.tmp 7), type := 133, pos := "reach.go:156", after := #[], guard := none } (.pointer (some ⟨g.b, 0, none⟩)) rfl (by kernel_rfl) (by kernel_rfl) (by kernel_rfl) (by kernel_rfl) (fun _ _ _ h => h) (Or.inl ⟨by rfl, by intro w hSw; clear hSw; go_simp⟩) hHeld ?_
  simp only [Act.put, List.setIfInBounds_toArray, List.set_cons_zero, List.set_cons_succ]
  refine takeE 1 { dst := some 53, op := Op.move (Operand.tmp 7), type := 133, pos := "reach.go:156", after := #[], guard := none } (.pointer (some ⟨g.b, 0, none⟩)) rfl (by kernel_rfl) (by kernel_rfl) (by kernel_rfl) (by kernel_rfl) (fun _ _ _ h => h) (Or.inl ⟨by rfl, by intro w hSw; clear hSw; go_simp⟩) hHeld ?_
  simp only [Act.put, List.setIfInBounds_toArray, List.set_cons_zero, List.set_cons_succ]
  refine takeE 2 { dst := some 54, op := Op.nilCheck (Operand.tmp 53), type := 0, pos := "reach.go:156", after := #[{ on := 1, ground := Ground.data }], guard := none } (.pointer (some ⟨g.b, 0, none⟩)) rfl (by kernel_rfl) (by kernel_rfl) (by kernel_rfl) (by kernel_rfl) (fun _ _ _ h => h) (Or.inl ⟨by rfl, by intro w hSw; clear hSw; go_simp⟩) hHeld ?_
  simp only [Act.put, List.setIfInBounds_toArray, List.set_cons_zero, List.set_cons_succ]
  refine takeE 3 { dst := some 55, op := Op.fieldAddr 152 (Operand.tmp 54) 1, type := 0, pos := "reach.go:156", after := #[{ on := 2, ground := Ground.data }], guard := none } (.pointer (some ⟨g.b, 21, none⟩)) rfl (by kernel_rfl) (by kernel_rfl) (by kernel_rfl) (by kernel_rfl) (fun _ _ _ h => h) (Or.inl ⟨by rfl, by intro w hSw; clear hSw; go_simp⟩) hHeld ?_
  simp only [Act.put, List.setIfInBounds_toArray, List.set_cons_zero, List.set_cons_succ]
  refine takeE 4 { dst := some 56, op := Op.load 150 (Operand.tmp 55), type := 150, pos := "reach.go:156", after := #[{ on := 3, ground := Ground.data }], guard := none } (g.ents.val) rfl (by kernel_rfl) (by kernel_rfl) (by kernel_rfl) (by kernel_rfl) (fun _ _ _ h => h) (Or.inl ⟨by rfl, fun w hSw => exec_load150 rfl rfl hSw.1⟩) hHeld ?_
  simp only [Act.put, List.setIfInBounds_toArray, List.set_cons_zero, List.set_cons_succ]
  refine takeE 5 { dst := some 57, op := Op.load 145 (Operand.tmp 4), type := 145, pos := "reach.go:156", after := #[], guard := none } (.agg E.toArray) rfl (by kernel_rfl) (by kernel_rfl) (by kernel_rfl) (by kernel_rfl) (fun _ _ _ h => h) (Or.inl ⟨by rfl, fun w hSw => exec_load145 rfl rfl hE.len hSw.2⟩) hHeld ?_
  simp only [Act.put, List.setIfInBounds_toArray, List.set_cons_zero, List.set_cons_succ]
  refine stepE 6 { dst := some 58, op := Op.buildSlice 150 1 #[(0, Operand.tmp 57)], type := 150, pos := "reach.go:156", after := #[{ on := 5, ground := Ground.data }], guard := none } rfl (by kernel_rfl) (fun K hK => ?_)
  rw [if_pos (by rfl)]
  refine wp_value (exec_buildSlice145 rfl hE.len rfl) ?_
  simp only [Act.put, List.setIfInBounds_toArray, List.set_cons_zero, List.set_cons_succ]
  have hg2 : w.drew.grownBy (w.drew.alloc (.cells E.toArray 145)) none := grown_alloc _ _ _
  have A2 := hd0.grown hg2
  have hsrc := range_new w.drew E 145
  have hS2 := And.intro (cell_grown hHeld.1 hg2 (by simp)) (range_grown hHeld.2 hg2 (by simp))
  have hlt2 : w.drew.heap.size < (w.drew.alloc (.cells E.toArray 145)).heap.size := by simp
  generalize w.drew.alloc (.cells E.toArray 145) = w2 at *
  have G2 := A2.grp g hgm
  refine hK _ _ (fun _ => hS2) ?_
  clear hK K hHeld
  refine stepE 7 { dst := some 59, op := Op.call { callee := Callee.builtin Builtin.append, args := #[Operand.tmp 56, Operand.tmp 58], argTypes := #[150, 150] }, type := 150, pos := "reach.go:156", after := #[{ on := 4, ground := Ground.data }, { on := 6, ground := Ground.data }], guard := none } rfl (by kernel_rfl) (fun K hK => ?_)
  refine step_append_caps rfl (.tmp 56) (.tmp 58) 150 rfl B 145 48 72 Yba.underlying150 Yba.row145 (by decide) g.ents.a g.ents.n g.ents.c g.ents.xs rfl G2.ents _ 1 1 E rfl (by rw [hE.len]) (fun j u hj => by rw [Addr.add_mid]; exact hsrc j u hj) hE.one (by decide) (by unfold maxLen; omega) (by omega) A2.size ?_
  intro gg cap' w3 hown hgr hat hcap
  simp only [Act.put, List.setIfInBounds_toArray, List.set_cons_zero, List.set_cons_succ]
  obtain ⟨A3, F3, f3⟩ := A2.ents hg ⟨some ⟨gg, 0, none⟩, g.ents.n + 1, cap', g.ents.xs ++ E⟩ hgr hown (by rcases hat with e | e; exact .inl e.symm; exact .inr ⟨gg, rfl, e⟩)
  have hown21 : (Value.slice g.ents.a g.ents.n g.ents.c).ownBlock ≠ some g.b := fun e => O.1 (mem_rowFoot.2 e)
  have howneb : (Value.slice g.ents.a g.ents.n g.ents.c).ownBlock ≠ some eb := fun e => hef (foot_of hgm (by simp [Grp.foot, mem_rowFoot.2 (show g.ents.val.ownBlock = some eb from e)]))
  have hS3 := And.intro (cell_grown hS2.1 hgr hown21) (range_grown hS2.2 hgr howneb)
  refine hK _ _ (fun _ => hS3) ?_
  clear hK K
  refine stepE 8 { dst := some 60, op := Op.nilCheck (Operand.tmp 52), type := 0, pos := "reach.go:156", after := #[{ on := 0, ground := Ground.data }, { on := 0, ground := Ground.phase }, { on := 1, ground := Ground.phase }, { on := 2, ground := Ground.phase }, { on := 3, ground := Ground.phase }, { on := 4, ground := Ground.phase }, { on := 5, ground := Ground.phase }, { on := 6, ground := Ground.phase }, { on := 7, ground := Ground.phase }], guard := none } rfl (by kernel_rfl) (fun K hK => ?_)
  rw [if_pos (by rfl)]
  refine wp_same (.pointer (some ⟨g.b, 0, none⟩)) (by go_simp) ?_
  simp only [Act.put, List.setIfInBounds_toArray, List.set_cons_zero, List.set_cons_succ]
  refine hK _ _ (fun _ => hS3) ?_
  clear hK K
  refine stepE 9 { dst := some 61, op := Op.fieldAddr 152 (Operand.tmp 60) 1, type := 0, pos := "reach.go:156", after := #[{ on := 8, ground := Ground.data }, { on := 0, ground := Ground.phase }, { on := 1, ground := Ground.phase }, { on := 2, ground := Ground.phase }, { on := 3, ground := Ground.phase }, { on := 4, ground := Ground.phase }, { on := 5, ground := Ground.phase }, { on := 6, ground := Ground.phase }, { on := 7, ground := Ground.phase }], guard := none } rfl (by kernel_rfl) (fun K hK => ?_)
  rw [if_pos (by rfl)]
  refine wp_same (.pointer (some ⟨g.b, 21, none⟩)) (by go_simp) ?_
  simp only [Act.put, List.setIfInBounds_toArray, List.set_cons_zero, List.set_cons_succ]
  refine hK _ _ (fun _ => hS3) ?_
  clear hK K
  refine stepE 10 { dst := none, op := Op.store 150 (Operand.tmp 61) (Operand.tmp 59), type := 0, pos := "reach.go:156", after := #[{ on := 9, ground := Ground.data }, { on := 7, ground := Ground.data }, { on := 7, ground := Ground.chain }, { on := 0, ground := Ground.phase }, { on := 1, ground := Ground.phase }, { on := 2, ground := Ground.phase }, { on := 3, ground := Ground.phase }, { on := 4, ground := Ground.phase }, { on := 5, ground := Ground.phase }, { on := 6, ground := Ground.phase }, { on := 7, ground := Ground.phase }], guard := none } rfl (by kernel_rfl) (fun K hK => ?_)
  rw [if_pos (by rfl)]
  refine wp_skip' (store150 rfl rfl rfl hS3.1 (by rw [show w3.frozen? ⟨g.b, 21, none⟩ = w2.frozen? ⟨g.b, 21, none⟩ from World.frozen?_of_block (w := w2) (hgr.block g.b (Nat.lt_of_lt_of_le hgl hg2.size) (Ne.symm hown21))]; exact G2.c21.2)) ?_
  refine hK _ _ (fun h => by cases h) (doneE (by kernel_rfl) ?_ _)
  simp only [Act.put]
  clear hK K hS3 hS2 hgr hown
  change FAt B rb wid (w3.setCell ⟨g.b, 21, none⟩ (.slice (some ⟨gg, 0, none⟩) (g.ents.n + 1) cap')) _ at A3
  change Fr w2 (w3.setCell ⟨g.b, 21, none⟩ (.slice (some ⟨gg, 0, none⟩) (g.ents.n + 1) cap')) _ at F3
  generalize w3.setCell ⟨g.b, 21, none⟩ (.slice (some ⟨gg, 0, none⟩) (g.ents.n + 1) cap') = w4 at *
  have F4 : Fr w w4 (fun j => j ∈ S.foot) := Fr.ofDrew ((fr_of_grown hg2).chain F3 (fun _ e => e.elim) (fun j _ hj => foot_of hgm hj))
  have hnl := block_lt_of_cell hnb
  have hkl : k < S.gs.length := (List.getElem?_eq_some_iff.1 hg).1
  have f4 : ∀ b ∈ ({ g with ents := ⟨some ⟨gg, 0, none⟩, g.ents.n + 1, cap', g.ents.xs ++ E⟩ } : Grp).foot, b ∈ g.foot ∨ w.heap.size ≤ b := fun b hb => (f3 b hb).imp (fun x => x) (fun x => by have := hg2.size; simp only [World.drew] at this; omega)
  refine file7 B rb wid nb d c k w4 _ { g with ents := ⟨some ⟨gg, 0, none⟩, g.ents.n + 1, cap', g.ents.xs ++ E⟩ } vs na nc R A3 (List.getElem?_set_self hkl) (hN.fr F4 (fun b hb => h.ge b hb)) hd (F4.cell hnb hnf) (fun hm => ?_) hc hbig (fun w' r hr1 hr2 D => hR w' ⟨some ⟨gg, 0, none⟩, g.ents.n + 1, cap', g.ents.xs ++ E⟩ r rfl rfl hr1 hr2 (Done.after F4 (fun b hb => ?_) D)) _ _ _ _ _ _ _ _ _ _ _ _ _ _ _ _ _ _ _ _ _ _ _ _ _ _ _ _ _ _ _ _ _ _ _ _ _ _ _ _ _ _ _ _ _ _ _ _ _ _ _ _ _ _ _ _ _ _ _ _ _ _ _ _ _ _ _ _ _ _ _ _ _ _ _ _ _ _ _ _ _ _ _ _ _ _ _ _ _ _ _ _ _ _ _
  · rcases foot_set (N := w.heap.size) hg f4 nb hm with h1 | h1
    · exact hnf h1
    · simp only at hnl; omega
  · rcases f4 b hb with h1 | h1
    · exact .inl (foot_of hgm h1)
    · exact .inr h1

end Go.Proofs.Ybulkeero
