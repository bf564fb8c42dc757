/- file: the reach is worked out and looked up. -/
import Derived.Test.YbulkeeroFile4
import Derived.Test.YbulkeeroReach30
namespace Go.Proofs.Ybulkeero
open Go.RowKit Go.Joins

theorem wpList_enterC {P : Program} {ops : Array Oper} {rest : List Oper} {Q : Exit → Act → World → Prop} {o : Oper} {a : Act} {w : World} (hgd : o.guard = none) (f : FuncId) (args : Array Value) (h : (execOp a.eval o).run P w = .ok (.enter f args) w) {R : Ending → World → Prop} (hc : Calls P f args w R)
    (hk : ∀ e w', R e w' → ∃ v, e = .returned v ∧ wpList P ops Q rest (a.put o.dst v) w') : wpList P ops Q (o :: rest) a w :=
  wpList_plain hgd fun _ hK => wp_enter f args h hc (fun e w' hr => by obtain ⟨v, h1, h2⟩ := hk e w' hr; exact ⟨v, h1, hK _ _ h2⟩)
theorem exec_lookup {ρ : Operand → Value} {o : Oper} {w : World} {x y : Operand} (ho : o.op = .lookup 125 x y false) {a b c : Value} (hx : ρ x = a) (hy : ρ y = b) (hr : (Instr.lookup 125 a b false).run Yba.prog w = .ok c w) : (execOp ρ o).run Yba.prog w = .ok (.value c) w := by
  unfold execOp
  simp [ho, hx, hy, hr]

set_option maxHeartbeats 1000000 in
set_option maxRecDepth 20000 in
theorem file3 (B rb wid nb d c eb ib : Nat) (P : List Int) (w : World) (S : FS) (E vs : List Value) (na : Option Addr) (nc : Nat) (u v : Value) (R : Ending → World → Prop) (h : FAt B rb wid w S) (hN : NodesAt B w na vs) (hE : EntAt eb E w) (hef : eb ∉ S.foot) (hEi : E[47]? = some (.pointer (some ⟨ib, 0, none⟩))) (hib : w.heap[ib]? = some (.cells #[u, v] 137 (0, 0))) (hiB : B ≤ ib) (hif : ib ∉ S.foot) (hie : ib ≠ eb) (hin : ib ≠ nb) (hd : S.cnt[d]? = some c) (hnb : w.rangeAt nb 0 (rcells d P)) (hP : P.length = 20) (hnf : nb ∉ S.foot) (hc : c ≤ 1000000) (hnl : nb < w.heap.size) (hwid : wid ≤ 1000) (hbig : ∀ g ∈ S.gs, g.rooms.n ≤ 100000000 ∧ g.ents.n ≤ 100000000)
    (hR : ∀ w' S' k g g', FileTo B rb wid w S d c P E vs ib w' S' k g g' → R (.returned (.tuple #[])) w') (u1 u3 u5 u7 u8 u9 u10 u11 u12 u13 u14 u15 u16 u17 u18 u19 u20 u21 u22 u23 u24 u25 u26 u27 u28 u29 u30 u31 u32 u33 u34 u35 u36 u37 u38 u39 u40 u41 u42 u43 u44 u45 u46 u47 u48 u49 u50 u51 u52 u53 u54 u55 u56 u57 u58 u59 u60 u61 u62 u63 u64 u65 u66 u67 u68 u69 u70 u71 u72 u73 u74 u75 u76 u77 u78 u79 u80 u81 u82 u83 u84 u85 u86 u87 u88 u89 u90 u91 u92 u93 u94 u95 u96 u97 u98 : Value) :
    (fileC 3).wp Yba.prog (bodyPost Yba.prog Yba.f21 R) ⟨#[.pointer (some ⟨rb, 0, none⟩), u1, .slice na vs.length nc, u3, .pointer (some ⟨eb, 0, none⟩), u5, .pointer (some ⟨nb, 0, none⟩), u7, u8, u9, u10, u11, u12, u13, u14, u15, u16, u17, u18, u19, u20, u21, u22, u23, u24, u25, u26, u27, u28, u29, u30, u31, u32, u33, u34, u35, u36, u37, u38, u39, u40, u41, u42, u43, u44, u45, u46, u47, u48, u49, u50, u51, u52, u53, u54, u55, u56, u57, u58, u59, u60, u61, u62, u63, u64, u65, u66, u67, u68, u69, u70, u71, u72, u73, u74, u75, u76, u77, u78, u79, u80, u81, u82, u83, u84, u85, u86, u87, u88, u89, u90, u91, u92, u93, u94, u95, u96, u97, u98], []⟩ w := by
  change ((Code.region 5 #[{ dst := some 23, op := Op.move (Operand.tmp 0), type := 124, pos := "reach.go:150", after := #[], guard := none }, { dst := some 24, op := Op.nilCheck (Operand.tmp 23), type := 0, pos := "reach.go:150", after := #[{ on := 0, ground := Ground.data }], guard := none }, { dst := some 25, op := Op.fieldAddr 127 (Operand.tmp 24) 1, type := 0, pos := "reach.go:150", after := #[{ on := 1, ground := Ground.data }], guard := none }, { dst := some 26, op := Op.load 125 (Operand.tmp 25), type := 125, pos := "reach.go:150", after := #[{ on := 2, ground := Ground.data }], guard := none }, { dst := some 27, op := Op.load 139 (Operand.tmp 6), type := 139, pos := "reach.go:150", after := #[], guard := none }, { dst := some 28, op := Op.lookup 125 (Operand.tmp 26) (Operand.tmp 27) false, type := 133, pos := "reach.go:150", after := #[{ on := 3, ground := Ground.data }, { on := 4, ground := Ground.data }], guard := none }, { dst := some 7, op := Op.assign (Operand.tmp 28), type := 133, pos := "reach.go:150", after := #[{ on := 5, ground := Ground.data }, { on := 0, ground := Ground.phase }, { on := 1, ground := Ground.phase }, { on := 2, ground := Ground.phase }, { on := 3, ground := Ground.phase }, { on := 4, ground := Ground.phase }, { on := 5, ground := Ground.phase }], guard := none }] true).seq (fileC 4)).wp _ _ _ _
  refine wp_seq ?_
  have A1 := h.grown (grown_drew w)
  have hnb1 : w.drew.rangeAt nb 0 (rcells d P) := (World.rangeAt_drew _ _ _ _).2 hnb
  refine beginE [] (fun w' : World => w'.cell? ⟨rb, 1, none⟩ = some (.map (some S.mb)) ∧ w'.rangeAt nb 0 (rcells d P)) (by kernel_rfl) ⟨A1.cells.2.1, hnb1⟩ (fun hHeld => ?_)
  refine takeE 0 { dst := some 23, op := Op.move (Operand.tmp 0), type := 124, pos := "reach.go:150", after := #[], guard := none } (.pointer (some ⟨rb, 0, none⟩)) rfl (by kernel_rfl) (by kernel_rfl) (by kernel_rfl) (by kernel_rfl) (fun _ _ _ h => h) (Or.inl ⟨by rfl, by intro w hSw; clear hSw; go_simp⟩) hHeld ?_
  simp only [Act.put, List.setIfInBounds_toArray, List.set_cons_zero, List.set_cons_succ]
  refine takeE 1 { dst := some 24, op := Op.nilCheck (Operand.tmp 23), type := 0, pos := "reach.go:150", after := #[{ on := 0, ground := Ground.data }], guard := none } (.pointer (some ⟨rb, 0, none⟩)) rfl (by kernel_rfl) (by kernel_rfl) (by kernel_rfl) (by kernel_rfl) (fun _ _ _ h => h) (Or.inl ⟨by rfl, by intro w hSw; clear hSw; go_simp⟩) hHeld ?_
  simp only [Act.put, List.setIfInBounds_toArray, List.set_cons_zero, List.set_cons_succ]
  refine takeE 2 { dst := some 25, op := Op.fieldAddr 127 (Operand.tmp 24) 1, type := 0, pos := "reach.go:150", after := #[{ on := 1, ground := Ground.data }], guard := none } (.pointer (some ⟨rb, 1, none⟩)) rfl (by kernel_rfl) (by kernel_rfl) (by kernel_rfl) (by kernel_rfl) (fun _ _ _ h => h) (Or.inl ⟨by rfl, by intro w hSw; clear hSw; go_simp⟩) hHeld ?_
  simp only [Act.put, List.setIfInBounds_toArray, List.set_cons_zero, List.set_cons_succ]
  refine takeE 3 { dst := some 26, op := Op.load 125 (Operand.tmp 25), type := 125, pos := "reach.go:150", after := #[{ on := 2, ground := Ground.data }], guard := none } (.map (some S.mb)) rfl (by kernel_rfl) (by kernel_rfl) (by kernel_rfl) (by kernel_rfl) (fun _ _ _ h => h) (Or.inl ⟨by rfl, by intro w hSw; have hSc := hSw.1; clear hSw; go_simp⟩) hHeld ?_
  simp only [Act.put, List.setIfInBounds_toArray, List.set_cons_zero, List.set_cons_succ]
  refine takeE 4 { dst := some 27, op := Op.load 139 (Operand.tmp 6), type := 139, pos := "reach.go:150", after := #[], guard := none } (rv d P) rfl (by kernel_rfl) (by kernel_rfl) (by kernel_rfl) (by kernel_rfl) (fun _ _ _ h => h) (Or.inl ⟨by rfl, fun w hSw => exec_load139 rfl rfl hP hSw.2⟩) hHeld ?_
  simp only [Act.put, List.setIfInBounds_toArray, List.set_cons_zero, List.set_cons_succ]
  refine stepE 5 { dst := some 28, op := Op.lookup 125 (Operand.tmp 26) (Operand.tmp 27) false, type := 133, pos := "reach.go:150", after := #[{ on := 3, ground := Ground.data }, { on := 4, ground := Ground.data }], guard := none } rfl (by kernel_rfl) (fun K hK => ?_)
  rw [if_pos (by rfl)]
  obtain ⟨es, clock, hm, his⟩ := A1.map
  have hV := lookup139 w.drew S.mb d clock P hP es _ hm his
  generalize hVe : ((((S.gs.map Grp.gr).findIdx? (hit d P)).map fun j => (((S.gs.map Grp.gr)[j]?).map Gr.ptr).getD (.pointer none)).getD (.pointer none)) = V at hV
  refine wp_same V (exec_lookup (x := .tmp 26) (y := .tmp 27) rfl rfl rfl hV) ?_
  simp only [Act.put, List.setIfInBounds_toArray, List.set_cons_zero, List.set_cons_succ]
  refine hK _ _ (fun _ => hHeld) ?_
  clear hK K
  refine stepE 6 { dst := some 7, op := Op.assign (Operand.tmp 28), type := 133, pos := "reach.go:150", after := #[{ on := 5, ground := Ground.data }, { on := 0, ground := Ground.phase }, { on := 1, ground := Ground.phase }, { on := 2, ground := Ground.phase }, { on := 3, ground := Ground.phase }, { on := 4, ground := Ground.phase }, { on := 5, ground := Ground.phase }], guard := none } rfl (by kernel_rfl) (fun K hK => ?_)
  rw [if_pos (by rfl)]
  refine wp_same V (by go_simp) ?_
  simp only [Act.put, List.setIfInBounds_toArray, List.set_cons_zero, List.set_cons_succ]
  refine hK _ _ (fun _ => hHeld) (doneE (by kernel_rfl) ?_ _)
  clear hK K hHeld
  have hN' : NodesAt B w.drew na vs := hN.fr (Fr.drew w (fun _ => False)) (fun _ e => e.elim)
  have hE' : EntAt eb E w.drew := ⟨hE.box, hE.lt, hE.len, hE.one⟩
  cases hfi : (S.gs.map Grp.gr).findIdx? (hit d P) with
  | none =>
    rw [hfi] at hVe
    have hVn : V = .pointer none := hVe.symm
    subst hVn
    exact file4miss B rb wid nb d c eb ib P w.drew S E vs na nc u v R A1 hfi hN' hE' hef hEi hib hiB hif hie hin hd hnb1 hP hnf hc hnl hwid (fun w' S' k g g' T => hR w' S' k g g' ⟨T.at', T.cnt, T.was, T.gr, T.en, T.ex, T.rn, T.rx, T.fr.ofDrew, T.ft, T.item⟩) _ _ _ _ _ _ _ _ _ _ _ _ _ _ _ _ _ _ _ _ _ _ _ _ _ _ _ _ _ _ _ _ _ _ _ _ _ _ _ _ _ _ _ _ _ _ _ _ _ _ _ _ _ _ _ _ _ _ _ _ _ _ _ _ _ _ _ _ _ _ _ _ _ _ _ _ _ _ _ _ _ _ _ _ _ _ _ _ _ _ _ _ _ _
  | some k =>
    have hk := (List.findIdx?_eq_some_iff_getElem.1 hfi).1
    have hk' : k < S.gs.length := by simpa using hk
    have hg : S.gs[k]? = some S.gs[k] := List.getElem?_eq_getElem hk'
    rw [hfi] at hVe
    have hVn : V = .pointer (some ⟨S.gs[k].b, 0, none⟩) := by
      rw [← hVe]
      simp [hg, Grp.gr, Gr.ptr]
    subst hVn
    have hb := hbig S.gs[k] (List.getElem_mem _)
    exact file4hit B rb wid nb d c k eb ib P w.drew S S.gs[k] E vs na nc u v R A1 hfi hg hN' hE' hef hEi hib hiB hif hie hin hd hnb1 hnf hc (by omega) (by omega) (fun w' S' k g g' T => hR w' S' k g g' ⟨T.at', T.cnt, T.was, T.gr, T.en, T.ex, T.rn, T.rx, T.fr.ofDrew, T.ft, T.item⟩) _ _ _ _ _ _ _ _ _ _ _ _ _ _ _ _ _ _ _ _ _ _ _ _ _ _ _ _ _ _ _ _ _ _ _ _ _ _ _ _ _ _ _ _ _ _ _ _ _ _ _ _ _ _ _ _ _ _ _ _ _ _ _ _ _ _ _ _ _ _ _ _ _ _ _ _ _ _ _ _ _ _ _ _ _ _ _ _ _ _ _ _ _ _


end Go.Proofs.Ybulkeero
