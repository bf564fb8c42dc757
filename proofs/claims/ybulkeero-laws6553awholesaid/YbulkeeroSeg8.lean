/- The law 6553A, the store and the record made, and tellSpares (regions 14 to 17). -/
import Derived.Test.YbulkeeroSeg12
namespace Go.Proofs.Ybulkeero
open Go.RowKit Go.Joins

theorem exec_build {P : Program} {ρ : Operand → Value} {o : Oper} {w : World} {t : TypeId} {parts : Array (Nat × Operand)} {vparts : Array (Nat × Value)} {v : Value} (ho : o.op = .build t parts) (hr : (Instr.build t vparts).run P w = .ok v w) (hp : (parts.map fun (i, x) => (i, ρ x)) = vparts) :
    (execOp ρ o).run P w = .ok (.value v) w := by
  unfold execOp
  simp only [ho, hp, Sem.run_bind, hr, Result.andThen_ok, Sem.run_pure]
theorem exec_box {ρ : Operand → Value} {o : Oper} {w : World} {t : TypeId} {x : Operand} {C : Array Value} (ho : o.op = .box t x) (hx : ρ x = .agg C) : (execOp ρ o).run Yba.prog w = .ok (.value (.pointer (some ⟨w.heap.size, 0, none⟩))) (w.alloc (.cells C t)) := by
  unfold execOp
  simp [ho, hx, go_sem]
theorem wpList_enter {P : Program} {ops : Array Oper} {rest : List Oper} {Q : Exit → Act → World → Prop} {o : Oper} {a : Act} {w : World} (hgd : o.guard = none) (f : FuncId) (args : Array Value) (h : (execOp a.eval o).run P w = .ok (.enter f args) w) {R : Ending → World → Prop} (hc : Calls P f args w R)
    (hk : ∀ e w', R e w' → ∃ v, e = .returned v ∧ wpList P ops Q rest (a.put o.dst v) w') : wpList P ops Q (o :: rest) a w :=
  wpList_plain hgd fun _ hK => wp_enter f args h hc (fun e w' hr => by obtain ⟨v, h1, h2⟩ := hk e w' hr; exact ⟨v, h1, hK _ _ h2⟩)

/-- Ahead of the store's making. -/
structure Pre (w0 : World) (key sig value flat me : List Int) (va : Option Addr) (m kb gb mb lb rb : Nat) (w : World) : Prop where
  keyb : w.rangeAt kb 0 (by8 key)
  sigb : w.rangeAt gb 0 (by8 sig)
  mine : w.rangeAt mb 0 (by8 me)
  list : w.rangeAt lb 0 (by8 flat)
  valueB : Bytes w va value.length value
  blk : w.heap[rb]? = some (.cells #[.slice (some ⟨lb, 0, none⟩) m m, nilRow.val, nilRow.val, nilRow.val, nilRow.val, nilRow.val, .int .i64 0] 33 (0, 0))
  below : Below w0.heap.size w0 w
  lbrb : lb < rb
  kbrb : kb ≠ rb
  gbrb : gb ≠ rb
  mbrb : mb ≠ rb
  new : w0.heap.size ≤ rb
  vals : ∀ x, va = some x → 0 < value.length → x.block < w0.heap.size
theorem Pre.rbLt {w0 : World} {key sig value flat me : List Int} {va : Option Addr} {m kb gb mb lb rb : Nat} {w : World} (h : Pre w0 key sig value flat me va m kb gb mb lb rb w) : rb < w.heap.size := (Array.getElem?_eq_some_iff.1 h.blk).1
theorem Pre.later {w0 : World} {key sig value flat me : List Int} {va : Option Addr} {m kb gb mb lb rb : Nat} {w w' : World} (h : Pre w0 key sig value flat me va m kb gb mb lb rb w) (hB : Below w.heap.size w w') : Pre w0 key sig value flat me va m kb gb mb lb rb w' :=
  ⟨range_grow h.keyb hB, range_grow h.sigb hB, range_grow h.mine hB, range_grow h.list hB, h.valueB.below hB, by rw [hB.block rb h.rbLt]; exact h.blk, h.below.trans (hB.mono (by have := h.rbLt; have := h.new; omega)), h.lbrb, h.kbrb, h.gbrb, h.mbrb, h.new, h.vals⟩

/-- The router, empty. -/
theorem Pre.rt {w0 : World} {key sig value flat me : List Int} {va : Option Addr} {m kb gb mb lb rb : Nat} {w : World} (h : Pre w0 key sig value flat me va m kb gb mb lb rb w) : RtAt w.heap.size rb (.slice (some ⟨lb, 0, none⟩) m m) w S0 :=
  ⟨h.rbLt, Nat.le_refl _, h.blk, fun k => World.ownsRow_nil _ _ _ _, fun k l _ b hb => by cases hb⟩

/-- Behind tellSpares. -/
theorem law_start {w0 W w' : World} {key sig value flat me : List Int} {va : Option Addr} {m kb gb mb lb rb sb hb reps vc : Nat} {kind id seq : Int} {ca : Option Addr} {cc : Nat} {s : Nat → Row} {ps : List (Option Addr × Nat)}
    (h : Pre w0 key sig value flat me va m kb gb mb lb rb W) (hT : TsAt sb hb rb me reps ⟨key, kind, id, ca, cc, value, seq, sig⟩ W) (hf : TsFit W.heap.size rb sb hb ⟨key, kind, id, ca, cc, value, seq, sig⟩) (hcopy : Bytes W ca value.length value)
    (hr : RecFit ⟨key, kind, id, ca, cc, value, seq, sig⟩) (hme : me.length = 20)
    (hE : TellTo W.heap.size rb (.slice (some ⟨lb, 0, none⟩) m m) W S0 ⟨key, kind, id, ca, cc, value, seq, sig⟩ flat me reps (min (reps + 2) m - reps) w' s ps) :
    LawAt ⟨w0, ⟨key, kind, id, ca, cc, value, seq, sig⟩, flat, me, va, vc, m, reps, kb, gb, mb, lb, rb, sb, hb, W.heap.size⟩ W w' s ps := by
  have M := hE.moved
  have hR := h.rt
  have nm : ∀ j, j < W.heap.size → j ≠ rb → ¬ (j = rb ∨ ∃ k, (S0 k).val.ownBlock = some j) := fun j h1 h2 => hR.notMay ⟨h1, h2⟩
  have hrk : 0 < key.length := by have := hr.key; simp only at this; omega
  have hrs : 0 < sig.length := by have := hr.sig; simp only at this; omega
  have hbelow : Below w0.heap.size w0 w' := by
    have hn := h.new
    have hl := h.rbLt
    exact h.below.trans ⟨M.fr.os, M.fr.tape, M.fr.output, M.fr.size, fun k hk => M.fr.block k (by omega) (nm k (by omega) (by omega))⟩
  refine ⟨hE, hT.moved hR hf M, ?_, range_fr h.mine M.fr (nm _ (range_lt h.mine (by omega)) h.mbrb), range_fr h.keyb M.fr (nm _ (range_lt h.keyb hrk) h.kbrb), range_fr h.sigb M.fr (nm _ (range_lt h.sigb hrs) h.gbrb), ?_, ?_, hbelow, ?_⟩
  · have hl := h.rbLt
    have hlt := h.lbrb
    exact range_fr h.list M.fr (nm lb (by omega) (by omega))
  · obtain ⟨h1, h2 | ⟨b, o, ha, hrg⟩⟩ := h.valueB
    · exact ⟨h1, .inl h2⟩
    · rcases Nat.eq_zero_or_pos value.length with h0 | h0
      · exact ⟨h1, .inl h0⟩
      · have hb' := h.vals _ ha h0
        have hn := h.new
        have hl := h.rbLt
        simp only at hb'
        exact ⟨h1, .inr ⟨b, o, ha, range_fr hrg M.fr (nm b (by omega) (by omega))⟩⟩
  · obtain ⟨h1, h2 | ⟨b, o, ha, hrg⟩⟩ := hcopy
    · exact ⟨h1, .inl h2⟩
    · exact ⟨h1, .inr ⟨b, o, ha, range_fr hrg M.fr (nm b (hf.va _ ha).1 (hf.va _ ha).2)⟩⟩
  · have hn := h.new
    have hl := h.rbLt
    have := M.fr.size
    simp only
    omega

/-- The store and the record in their blocks. -/
theorem ts_of {W : World} {sb hb rb reps : Nat} {me : List Int} {r : Rec} {C D E : Array Value} (hs : W.heap[sb]? = some (.cells C 69 (0, 0))) (hC : StoreCells rb me reps C) (hh : W.heap[hb]? = some (.cells D 82 (0, 0))) (hE : RecCells r E) (hD : ∀ j, j < 120 → D[2 + j]? = E[j]?) (hsrc : Src W r.va (by8 r.value)) (hk : r.key.length = 20) (hg : r.sig.length = 64) : TsAt sb hb rb me reps r W := by
  refine ⟨by rw [cell_of_block hs]; exact hC.iface, fun j v hj => by rw [cell_of_block hs]; exact hC.mine j v hj, by rw [cell_of_block hs]; exact hC.reps, ⟨⟨fun j v hj => ?_, ?_, ?_⟩, ?_, ?_, fun j v hj => ?_, hsrc⟩⟩
  · have hj' := (List.getElem?_eq_some_iff.1 hj).1
    rw [by8_length] at hj'
    rw [cell_of_block hh, hD j (by omega)]; exact hE.key j v hj
  · rw [cell_of_block hh]; exact (hD 20 (by decide)).trans hE.kind
  · rw [cell_of_block hh]; exact (hD 21 (by decide)).trans hE.id
  · rw [cell_of_block hh]; exact (hD 22 (by decide)).trans hE.value
  · rw [cell_of_block hh]; exact (hD 23 (by decide)).trans hE.seq
  · have hj' := (List.getElem?_eq_some_iff.1 hj).1
    rw [by8_length] at hj'
    rw [cell_of_block hh, show 58 + j = 2 + (56 + j) by omega, hD (56 + j) (by omega)]; exact hE.sig j v hj

set_option maxHeartbeats 4000000 in
set_option maxRecDepth 20000 in
theorem tail8 (w0 w : World) (key sig value flat me : List Int) (kind id seq : Int) (va : Option Addr) (m kb gb mb lb rb reps vc : Nat) (h : Pre w0 key sig value flat me va m kb gb mb lb rb w)
    (hkey : key.length = 20) (hsig : sig.length = 64) (k0 : 0 ≤ kind) (k1 : kind ≤ 4294967295) (i0 : 0 ≤ id) (i1 : id ≤ 4294967295) (q0 : 0 ≤ seq) (q1 : seq ≤ 4294967295) (hlen : value.length ≤ 1048576) (hme : me.length = 20) (hm : m ≤ 65536) (hreps : reps ≤ 9) (hfl : flat.length = m * 20) (hnil : va = none → value.length = 0) (u0 u4 u6 u7 u8 u9 u11 u12 u13 u15 u16 u17 u18 u19 u20 u24 u26 u27 u28 u29 u30 u31 u32 u33 u34 u35 u36 u37 u38 u39 u40 u41 u42 u43 u44 u45 u46 u47 u48 u49 u50 u51 u52 u53 u54 u55 u56 u57 u58 u59 u60 u61 u62 u63 u64 u65 u66 u67 u68 u69 u70 u71 u72 u73 u74 u75 u76 u77 u78 u79 u80 u81 u82 u83 u84 u85 u86 u87 u88 u89 u90 u91 u92 u93 u94 u95 u96 u97 u98 u99 u100 u101 u102 u103 u104 u105 u106 u107 u108 u109 u110 u111 u112 u113 u114 u115 u116 u117 u118 u119 u120 u121 u122 u123 u124 u125 u126 u127 u128 u129 u130 u131 u132 u133 u134 u135 u136 u137 u138 u139 u140 u141 u142 u143 u144 u145 u146 u147 u148 u149 u150 u151 u152 u153 u154 u155 u156 u157 u158 u159 u160 u161 u162 u163 u164 u165 u166 u167 u168 u169 u170 u171 u172 u173 u174 u175 u176 u177 u178 u179 u180 u181 u182 u183 u184 u185 u186 u187 u188 u189 u190 u191 u192 u193 u194 u195 u196 u197 u198 u199 u200 u201 u202 u203 u204 u205 u206 u207 u208 u209 u210 u211 u212 u213 u214 u215 u216 u217 u218 u219 u220 u221 u222 u223 u224 u225 u226 u227 u228 u229 u230 u231 u232 u233 u234 u235 u236 u237 u238 u239 u240 u241 u242 u243 u244 u245 u246 u247 u248 u249 u250 u251 u252 u253 u254 u255 u256 u257 u258 u259 u260 u261 u262 u263 u264 u265 u266 u267 u268 u269 u270 u271 u272 u273 u274 u275 u276 u277 u278 u279 u280 u281 u282 u283 u284 u285 u286 u287 u288 u289 u290 u291 u292 u293 u294 u295 u296 u297 u298 u299 u300 u301 u302 u303 u304 u305 u306 u307 u308 u309 u310 u311 u312 u313 u314 u315 u316 u317 u318 u319 u320 u321 u322 u323 : Value) :
    (tailC 8).wp Yba.prog (LawQ w0) ⟨#[u0, .int .u32 kind, .int .u32 id, .int .u32 seq, u4, .slice va value.length vc, u6, u7, u8, u9, .pointer (some ⟨kb, 0, none⟩), u11, u12, u13, .pointer (some ⟨gb, 0, none⟩), u15, u16, u17, u18, u19, u20, .int .i64 (reps : Int), .pointer (some ⟨mb, 0, none⟩), .slice (some ⟨lb, 0, none⟩) m m, u24, .pointer (some ⟨rb, 0, none⟩), u26, u27, u28, u29, u30, u31, u32, u33, u34, u35, u36, u37, u38, u39, u40, u41, u42, u43, u44, u45, u46, u47, u48, u49, u50, u51, u52, u53, u54, u55, u56, u57, u58, u59, u60, u61, u62, u63, u64, u65, u66, u67, u68, u69, u70, u71, u72, u73, u74, u75, u76, u77, u78, u79, u80, u81, u82, u83, u84, u85, u86, u87, u88, u89, u90, u91, u92, u93, u94, u95, u96, u97, u98, u99, u100, u101, u102, u103, u104, u105, u106, u107, u108, u109, u110, u111, u112, u113, u114, u115, u116, u117, u118, u119, u120, u121, u122, u123, u124, u125, u126, u127, u128, u129, u130, u131, u132, u133, u134, u135, u136, u137, u138, u139, u140, u141, u142, u143, u144, u145, u146, u147, u148, u149, u150, u151, u152, u153, u154, u155, u156, u157, u158, u159, u160, u161, u162, u163, u164, u165, u166, u167, u168, u169, u170, u171, u172, u173, u174, u175, u176, u177, u178, u179, u180, u181, u182, u183, u184, u185, u186, u187, u188, u189, u190, u191, u192, u193, u194, u195, u196, u197, u198, u199, u200, u201, u202, u203, u204, u205, u206, u207, u208, u209, u210, u211, u212, u213, u214, u215, u216, u217, u218, u219, u220, u221, u222, u223, u224, u225, u226, u227, u228, u229, u230, u231, u232, u233, u234, u235, u236, u237, u238, u239, u240, u241, u242, u243, u244, u245, u246, u247, u248, u249, u250, u251, u252, u253, u254, u255, u256, u257, u258, u259, u260, u261, u262, u263, u264, u265, u266, u267, u268, u269, u270, u271, u272, u273, u274, u275, u276, u277, u278, u279, u280, u281, u282, u283, u284, u285, u286, u287, u288, u289, u290, u291, u292, u293, u294, u295, u296, u297, u298, u299, u300, u301, u302, u303, u304, u305, u306, u307, u308, u309, u310, u311, u312, u313, u314, u315, u316, u317, u318, u319, u320, u321, u322, u323], []⟩ w := by
  obtain ⟨C, hbC, hC⟩ := build69 w rb reps me hme
  change ((Code.seq (Code.region 14 #[{ dst := some 82, op := Op.move (Operand.tmp 25), type := 29, pos := "zz_law_s6553a.go:86", after := #[], guard := none }, { dst := some 83, op := Op.makeInterface 29 (Operand.tmp 82), type := 36, pos := "zz_law_s6553a.go:86", after := #[{ on := 0, ground := Ground.data }], guard := none }, { dst := some 84, op := Op.load 27 (Operand.tmp 22), type := 27, pos := "zz_law_s6553a.go:86", after := #[], guard := none }, { dst := some 85, op := Op.move (Operand.tmp 21), type := 3, pos := "zz_law_s6553a.go:86", after := #[], guard := none }, { dst := some 86, op := Op.build 69 #[(0, Operand.tmp 83), (3, Operand.tmp 84), (4, Operand.tmp 85)], type := 69, pos := "zz_law_s6553a.go:86", after := #[{ on := 1, ground := Ground.data }, { on := 2, ground := Ground.data }, { on := 3, ground := Ground.data }], guard := none }, { dst := some 87, op := Op.box 69 (Operand.tmp 86), type := 34, pos := "zz_law_s6553a.go:86", after := #[{ on := 4, ground := Ground.data }], guard := none }, { dst := some 26, op := Op.assign (Operand.tmp 87), type := 34, pos := "zz_law_s6553a.go:86", after := #[{ on := 5, ground := Ground.data }, { on := 0, ground := Ground.phase }, { on := 1, ground := Ground.phase }, { on := 2, ground := Ground.phase }, { on := 3, ground := Ground.phase }, { on := 4, ground := Ground.phase }, { on := 5, ground := Ground.phase }], guard := none }] false) (Code.seq (Code.region 15 #[{ dst := some 88, op := Op.move (Operand.tmp 5), type := 25, pos := "zz_law_s6553a.go:87", after := #[], guard := none }, { dst := some 89, op := Op.call { callee := Callee.value (Operand.func 6), args := #[Operand.tmp 88], argTypes := #[25] }, type := 25, pos := "zz_law_s6553a.go:87", after := #[{ on := 0, ground := Ground.data }], guard := none }, { dst := some 27, op := Op.assign (Operand.tmp 89), type := 25, pos := "zz_law_s6553a.go:87", after := #[{ on := 1, ground := Ground.data }, { on := 1, ground := Ground.chain }, { on := 0, ground := Ground.phase }, { on := 1, ground := Ground.phase }], guard := none }] false) (Code.seq (Code.region 16 #[{ dst := some 90, op := Op.load 22 (Operand.tmp 10), type := 22, pos := "zz_law_s6553a.go:88", after := #[], guard := none }, { dst := some 91, op := Op.move (Operand.tmp 1), type := 23, pos := "zz_law_s6553a.go:88", after := #[], guard := none }, { dst := some 92, op := Op.move (Operand.tmp 2), type := 23, pos := "zz_law_s6553a.go:88", after := #[], guard := none }, { dst := some 93, op := Op.move (Operand.tmp 27), type := 25, pos := "zz_law_s6553a.go:88", after := #[], guard := none }, { dst := some 94, op := Op.move (Operand.tmp 3), type := 23, pos := "zz_law_s6553a.go:88", after := #[], guard := none }, { dst := some 95, op := Op.load 24 (Operand.tmp 14), type := 24, pos := "zz_law_s6553a.go:88", after := #[], guard := none }, { dst := some 96, op := Op.build 76 #[(0, Operand.tmp 90), (1, Operand.tmp 91), (2, Operand.tmp 92), (3, Operand.tmp 93), (4, Operand.tmp 94), (6, Operand.tmp 95)], type := 76, pos := "zz_law_s6553a.go:88", after := #[{ on := 0, ground := Ground.data }, { on := 1, ground := Ground.data }, { on := 2, ground := Ground.data }, { on := 3, ground := Ground.data }, { on := 4, ground := Ground.data }, { on := 5, ground := Ground.data }], guard := none }, { dst := some 97, op := Op.build 82 #[(1, Operand.tmp 96)], type := 82, pos := "zz_law_s6553a.go:88", after := #[{ on := 6, ground := Ground.data }], guard := none }, { dst := some 98, op := Op.box 82 (Operand.tmp 97), type := 71, pos := "zz_law_s6553a.go:88", after := #[{ on := 7, ground := Ground.data }], guard := none }, { dst := some 28, op := Op.assign (Operand.tmp 98), type := 71, pos := "zz_law_s6553a.go:88", after := #[{ on := 8, ground := Ground.data }, { on := 0, ground := Ground.phase }, { on := 1, ground := Ground.phase }, { on := 2, ground := Ground.phase }, { on := 3, ground := Ground.phase }, { on := 4, ground := Ground.phase }, { on := 5, ground := Ground.phase }, { on := 6, ground := Ground.phase }, { on := 7, ground := Ground.phase }, { on := 8, ground := Ground.phase }], guard := none }] false) (Code.seq (Code.region 17 #[{ dst := some 99, op := Op.move (Operand.tmp 26), type := 34, pos := "zz_law_s6553a.go:89", after := #[], guard := none }, { dst := some 100, op := Op.move (Operand.tmp 28), type := 71, pos := "zz_law_s6553a.go:89", after := #[], guard := none }, { dst := some 101, op := Op.call { callee := Callee.value (Operand.func 7), args := #[Operand.tmp 99, Operand.tmp 100], argTypes := #[34, 71] }, type := 0, pos := "zz_law_s6553a.go:89", after := #[{ on := 0, ground := Ground.data }, { on := 1, ground := Ground.data }], guard := none }] false) (tailC 12)))))).wp _ _ _ _
  refine wp_seq (wp_region_list ?_)
  refine wpList_value (v := .pointer (some ⟨rb, 0, none⟩)) (w' := w) rfl (by go_simp) ?_
  simp only [Act.put, List.setIfInBounds_toArray, List.set_cons_zero, List.set_cons_succ]
  refine wpList_value (v := rtv rb) (w' := w) rfl (by unfold rtv; go_simp) ?_
  simp only [Act.put, List.setIfInBounds_toArray, List.set_cons_zero, List.set_cons_succ]
  refine wpList_value rfl (load27 rfl rfl hme h.mine) ?_
  simp only [Act.put, List.setIfInBounds_toArray, List.set_cons_zero, List.set_cons_succ]
  refine wpList_value (v := .int .i64 (reps : Int)) (w' := w) rfl (by go_simp) ?_
  simp only [Act.put, List.setIfInBounds_toArray, List.set_cons_zero, List.set_cons_succ]
  refine wpList_value rfl (exec_build rfl hbC (by simp only [List.map_toArray, List.map_cons, List.map_nil]; rfl)) ?_
  simp only [Act.put, List.setIfInBounds_toArray, List.set_cons_zero, List.set_cons_succ]
  refine wpList_value rfl (exec_box rfl rfl) ?_
  simp only [Act.put, List.setIfInBounds_toArray, List.set_cons_zero, List.set_cons_succ]
  refine wpList_value (v := .pointer (some ⟨w.heap.size, 0, none⟩)) (w' := w.alloc (.cells C 69)) rfl (by go_simp) ?_
  simp only [Act.put, List.setIfInBounds_toArray, List.set_cons_zero, List.set_cons_succ]
  have hs1 : (w.alloc (.cells C 69)).heap[w.heap.size]? = some (.cells C 69 (0, 0)) := heap_new w _
  have h1 := h.later (below_of_grown (grown_alloc w (.cells C 69) none))
  have hsz : w.heap.size < (w.alloc (.cells C 69)).heap.size := by simp
  have hrb := h.rbLt
  generalize w.alloc (.cells C 69) = w1 at *
  generalize hsb : w.heap.size = sb at *
  clear h hbC hsb
  refine wpList_nil (wp_seq (wp_region_list ?_))
  refine wpList_value (v := .slice va value.length vc) (w' := w1) rfl (by go_simp) ?_
  simp only [Act.put, List.setIfInBounds_toArray, List.set_cons_zero, List.set_cons_succ]
  refine wpList_enter rfl 6 #[.slice va value.length vc] (by go_simp) (clone_any va value.length vc value w1 rfl h1.valueB.src hnil (by omega)) ?_
  rintro e w2 ⟨ca, cc, rfl, hown2, hg2⟩
  refine ⟨_, rfl, ?_⟩
  simp only [Act.put, List.setIfInBounds_toArray, List.set_cons_zero, List.set_cons_succ]
  refine wpList_value (v := .slice ca value.length cc) (w' := w2) rfl (by go_simp) ?_
  simp only [Act.put, List.setIfInBounds_toArray, List.set_cons_zero, List.set_cons_succ]
  have h2 := h1.later (below_of_grown hg2)
  have hs2 : w2.heap[sb]? = some (.cells C 69 (0, 0)) := by rw [hg2.block sb hsz (by simp)]; exact hs1
  have hsz2 : sb < w2.heap.size := Nat.lt_of_lt_of_le hsz hg2.size
  have hr : RecFit ⟨key, kind, id, ca, cc, value, seq, sig⟩ := ⟨hkey, hsig, k0, k1, i0, i1, q0, q1, hlen⟩
  obtain ⟨E, hbE, hE⟩ := build76 w2 ⟨key, kind, id, ca, cc, value, seq, sig⟩ hr
  obtain ⟨D, hbD, hDs, hD⟩ := build82 w2 E hE.size
  refine wpList_nil (wp_seq (wp_region_list ?_))
  refine wpList_value rfl (load22 rfl rfl hkey h2.keyb) ?_
  simp only [Act.put, List.setIfInBounds_toArray, List.set_cons_zero, List.set_cons_succ]
  refine wpList_value (v := .int .u32 kind) (w' := w2) rfl (by go_simp) ?_
  simp only [Act.put, List.setIfInBounds_toArray, List.set_cons_zero, List.set_cons_succ]
  refine wpList_value (v := .int .u32 id) (w' := w2) rfl (by go_simp) ?_
  simp only [Act.put, List.setIfInBounds_toArray, List.set_cons_zero, List.set_cons_succ]
  refine wpList_value (v := .slice ca value.length cc) (w' := w2) rfl (by go_simp) ?_
  simp only [Act.put, List.setIfInBounds_toArray, List.set_cons_zero, List.set_cons_succ]
  refine wpList_value (v := .int .u32 seq) (w' := w2) rfl (by go_simp) ?_
  simp only [Act.put, List.setIfInBounds_toArray, List.set_cons_zero, List.set_cons_succ]
  refine wpList_value rfl (load24 rfl rfl hsig h2.sigb) ?_
  simp only [Act.put, List.setIfInBounds_toArray, List.set_cons_zero, List.set_cons_succ]
  refine wpList_value rfl (exec_build rfl hbE (by simp only [List.map_toArray, List.map_cons, List.map_nil]; rfl)) ?_
  simp only [Act.put, List.setIfInBounds_toArray, List.set_cons_zero, List.set_cons_succ]
  refine wpList_value rfl (exec_build rfl hbD (by simp only [List.map_toArray, List.map_cons, List.map_nil]; rfl)) ?_
  simp only [Act.put, List.setIfInBounds_toArray, List.set_cons_zero, List.set_cons_succ]
  refine wpList_value rfl (exec_box rfl rfl) ?_
  simp only [Act.put, List.setIfInBounds_toArray, List.set_cons_zero, List.set_cons_succ]
  refine wpList_value (v := .pointer (some ⟨w2.heap.size, 0, none⟩)) (w' := w2.alloc (.cells D 82)) rfl (by go_simp) ?_
  simp only [Act.put, List.setIfInBounds_toArray, List.set_cons_zero, List.set_cons_succ]
  have h3 := h2.later (below_of_grown (grown_alloc w2 (.cells D 82) none))
  have hs3 : (w2.alloc (.cells D 82)).heap[sb]? = some (.cells C 69 (0, 0)) := by rw [Below.heap_alloc _ _ _ hsz2]; exact hs2
  have hh3 : (w2.alloc (.cells D 82)).heap[w2.heap.size]? = some (.cells D 82 (0, 0)) := heap_new w2 _
  have hown3 := hown2.alloc (.cells D 82)
  have hT := ts_of hs3 hC hh3 hE hD (own_src hown3) hkey hsig
  have hsz3 : (w2.alloc (.cells D 82)).heap.size = w2.heap.size + 1 := by simp
  have hfit : TsFit (w2.alloc (.cells D 82)).heap.size rb sb w2.heap.size ⟨key, kind, id, ca, cc, value, seq, sig⟩ := by
    have := hg2.size
    refine ⟨⟨by omega, by omega⟩, ⟨by omega, by omega⟩, ?_⟩
    rintro x rfl
    have hx := hown3.lt x.block rfl
    exact ⟨hx.2, by omega⟩
  refine wpList_nil (wp_seq (wp_region_list ?_))
  generalize w2.alloc (.cells D 82) = w3 at *
  generalize w2.heap.size = hb at *
  refine wpList_value (v := .pointer (some ⟨sb, 0, none⟩)) (w' := w3) rfl (by go_simp) ?_
  simp only [Act.put, List.setIfInBounds_toArray, List.set_cons_zero, List.set_cons_succ]
  refine wpList_value (v := .pointer (some ⟨hb, 0, none⟩)) (w' := w3) rfl (by go_simp) ?_
  simp only [Act.put, List.setIfInBounds_toArray, List.set_cons_zero, List.set_cons_succ]
  refine wpList_enter rfl 7 #[.pointer (some ⟨sb, 0, none⟩), .pointer (some ⟨hb, 0, none⟩)] (by go_simp) (tell_any w3.heap.size rb sb hb lb m reps (min (reps + 2) m) w3 ⟨key, kind, id, ca, cc, value, seq, sig⟩ flat me h3.rt hT hfit hr hme hm (by omega) rfl (Nat.lt_trans h3.lbrb h3.rbLt) (Nat.ne_of_lt h3.lbrb) hfl h3.list) ?_
  rintro e w4 ⟨rfl, s, ps, hE4⟩
  refine ⟨_, rfl, ?_⟩
  simp only [Act.put, List.setIfInBounds_toArray, List.set_cons_zero, List.set_cons_succ]
  refine wpList_nil ?_
  have hL := law_start (vc := vc) h3 hT hfit (own_bytes hown3) hr hme hE4
  exact tail12 ⟨w0, ⟨key, kind, id, ca, cc, value, seq, sig⟩, flat, me, va, vc, m, reps, kb, gb, mb, lb, rb, sb, hb, w3.heap.size⟩ ⟨hr, hme, hm, hreps, hfl⟩ w3 w4 s ps hL _ _ _ _ _ _ _ _ _ _ _ _ _ _ _ _ _ _ _ _ _ _ _ _ _ _ _ _ _ _ _ _ _ _ _ _ _ _ _ _ _ _ _ _ _ _ _ _ _ _ _ _ _ _ _ _ _ _ _ _ _ _ _ _ _ _ _ _ _ _ _ _ _ _ _ _ _ _ _ _ _ _ _ _ _ _ _ _ _ _ _ _ _ _ _ _ _ _ _ _ _ _ _ _ _ _ _ _ _ _ _ _ _ _ _ _ _ _ _ _ _ _ _ _ _ _ _ _ _ _ _ _ _ _ _ _ _ _ _ _ _ _ _ _ _ _ _ _ _ _ _ _ _ _ _ _ _ _ _ _ _ _ _ _ _ _ _ _ _ _ _ _ _ _ _ _ _ _ _ _ _ _ _ _ _ _ _ _ _ _ _ _ _ _ _ _ _ _ _ _ _ _ _ _ _ _ _ _ _ _ _ _ _ _ _ _ _ _ _ _ _ _ _ _ _ _ _ _ _ _ _ _ _ _ _ _ _ _ _ _ _ _ _ _ _ _ _ _ _ _ _ _ _ _ _ _ _ _ _ _ _ _ _ _ _ _ _ _ _ _ _ _ _ _ _ _ _ _ _ _ _ _ _ _ _ _ _ _ _ _ _ _ _ _ _ _ _ _ _ _ _ _ _ _ _ _ _ _ _ _ _ _

end Go.Proofs.Ybulkeero
