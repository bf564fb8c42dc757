/- The law 6553C: the index and the rows are made (regions 11 to 15). -/
import Derived.Test.YbulkeeroD9
namespace Go.Proofs.Ybulkeero
open Go.RowKit Go.Joins

theorem make_any {t e size bytes : Nat} (ht : Yba.prog.underlying t = some (.slice e)) (hinfo : (Yba.prog.info? e).map (fun i => (i.zero.map (·.cells.size), i.size, i.bytes)) = some (some size, size, bytes)) (hbt : bytes ≤ 100) (n : Nat) (hn : n ≤ 100000) : ∃ Z : Array Value, Z.size = n * size ∧ ∀ w : World, (Instr.makeSlice t (.int .i64 (n : Int)) (.int .i64 (n : Int))).run Yba.prog w = .ok (.slice (some ⟨w.heap.size, 0, none⟩) n n) (w.alloc (.cells Z e)) := by
  obtain ⟨i, z, hi, hz, hs, hb, -⟩ := info_some hinfo
  refine ⟨madeCells z.cells (n * i.size), by rw [size_madeCells, hs], fun w => ?_⟩
  have hmul : (bytes : Int) * (n : Int) ≤ 281474976710656 := by
    have : bytes * n ≤ 100 * 100000 := Nat.mul_le_mul hbt hn
    have h2 : ((bytes * n : Nat) : Int) ≤ 10000000 := by omega
    rw [Int.natCast_mul] at h2
    omega
  have := run_make (P := Yba.prog) w t e i z ht hi hz .i64 .i64 n n (by omega) (Int.le_refl _) (by rw [hb]; exact hmul) (by omega)
  simpa only [Int.toNat_natCast] using this
theorem exec_makeSlice {ρ : Operand → Value} {o : Oper} {w w' : World} {x y : Operand} {t : TypeId} (ho : o.op = .makeSlice t x y) {a b v : Value} (hx : ρ x = a) (hy : ρ y = b) (hr : (Instr.makeSlice t a b).run Yba.prog w = .ok v w') : (execOp ρ o).run Yba.prog w = .ok (.value v) w' := by
  unfold execOp
  simp [ho, hx, hy, hr]

theorem cnt_zero (D : Nat → Nat) : List.replicate 161 0 = (List.range 161).map (fun d => cntD D d 0) := by
  apply List.ext_getElem (by rw [List.length_replicate, List.length_map, List.length_range])
  intro d h1 h2
  rw [List.getElem_replicate, List.getElem_map]
  rfl

/-- Where the rows lie. -/
structure Laid5 (p : P5) : Prop where
  rb : p.rb = p.w0.heap.size
  xb : p.xb = p.w0.heap.size + 1
  qb : p.qb = p.w0.heap.size + 2
  cb : p.cb = p.w0.heap.size + 3
  B : p.B = p.w0.heap.size + 4

set_option maxHeartbeats 8000000 in
set_option maxRecDepth 20000 in
theorem tailD4 (p : P5) (ok : Ok5 p) (lay : Laid5 p) (hvl : ∀ m, m < p.n → (p.st m).vs.length ≤ 2000000) (width : Int) (hwd : width.tmod 9 = (p.wid : Int)) (u2 u3 u4 u5 u6 u7 u8 u9 u10 u11 u12 u13 u14 u15 u16 u17 u18 u19 u20 u21 u22 u23 u24 u25 u26 u27 u28 u29 u30 u31 u32 u33 u34 u35 u36 u37 u38 u39 u40 u41 u42 u43 u44 u45 u46 u47 u48 u49 u50 u51 u52 u53 u54 u55 u56 u57 u58 u59 u60 u61 u62 u63 u64 u65 u66 u67 u68 u69 u70 u71 u72 u73 u74 u75 u76 u77 u78 u79 u80 u81 u82 u83 u84 u85 u86 u87 u88 u89 u90 u91 u92 u93 u94 u95 u96 u97 u98 u99 u100 u101 u102 u103 u104 u105 u106 u107 u108 u109 u110 u111 u112 u113 u114 u115 u116 u117 u118 u119 u120 u121 u122 u123 u124 u125 u126 u127 u128 u129 u130 u131 u132 u133 u134 u135 u136 u137 u138 u139 u140 u141 u142 u143 u144 u145 u146 u147 u148 u149 u150 u151 u152 u153 u154 u155 u156 u157 u158 u159 u160 u161 u162 u163 u164 u165 u166 u167 u168 u169 u170 u171 u172 u173 u174 u175 u176 u177 u178 u179 u180 u181 u182 u183 u184 u185 u186 u187 u188 u189 u190 u191 u192 u193 u194 u195 u196 u197 u198 u199 u200 u201 u202 u203 u204 u205 u206 u207 u208 u209 u210 u211 u212 u213 u214 u215 u216 u217 u218 u219 u220 u221 u222 u223 u224 u225 u226 u227 u228 u229 u230 u231 u232 u233 u234 u235 u236 u237 u238 u239 u240 u241 u242 u243 u244 u245 u246 u247 u248 u249 u250 u251 u252 u253 u254 u255 u256 u257 u258 u259 u260 u261 u262 u263 u264 u265 u266 u267 u268 u269 u270 u271 u272 u273 u274 u275 u276 u277 u278 u279 u280 u281 u282 u283 u284 u285 u286 u287 u288 u289 u290 u291 u292 u293 u294 u295 u296 u297 u298 u299 u300 u301 u302 u303 u304 u305 u306 u307 u308 u309 u310 u311 u312 u313 u314 u315 u316 u317 u318 u319 u320 u321 u322 u323 u324 u325 u326 u327 u328 u329 u330 u331 u332 u333 u334 u335 u336 u337 u338 u339 u340 u341 u342 u343 u344 u345 u346 u347 u348 u349 u350 u351 u352 u353 u354 u355 u356 u357 u358 u359 u360 u361 u362 u363 u364 u365 u366 u367 u368 u369 u370 u371 u372 u373 u374 u375 u376 u377 u378 u379 u380 u381 u382 u383 u384 u385 u386 u387 u388 u389 u390 u391 u392 u393 u394 u395 u396 u397 u398 u399 u400 u401 u402 u403 u404 u405 u406 u407 u408 u409 u410 u411 u412 u413 u414 u415 u416 u417 u418 u419 u420 u421 u422 u423 u424 u425 u426 u427 u428 u429 u430 u431 u432 u433 u434 u435 u436 u437 u438 u439 u440 u441 u442 u443 u444 u445 u446 u447 u448 u449 u450 u451 u452 u453 u454 u455 u456 u457 u458 u459 u460 u461 u462 u463 u464 u465 u466 u467 u468 u469 u470 u471 u472 u473 u474 u475 u476 u477 u478 u479 u480 u481 u482 u483 u484 u485 u486 u487 u488 u489 u490 u491 u492 u493 u494 u495 u496 u497 u498 u499 u500 u501 u502 u503 u504 u505 u506 u507 u508 u509 u510 u511 u512 u513 u514 u515 u516 : Value) :
    (tailD 4).wp Yba.prog (bodyPost Yba.prog Yba.f5 (LawE p.w0)) ⟨#[.int .u8 width, .slice p.sa p.n p.sc, u2, u3, u4, u5, u6, u7, u8, u9, u10, u11, u12, u13, u14, u15, u16, u17, u18, u19, u20, u21, u22, u23, u24, u25, u26, u27, u28, u29, u30, u31, u32, u33, u34, u35, u36, u37, u38, u39, u40, u41, u42, u43, u44, u45, u46, u47, u48, u49, u50, u51, u52, u53, u54, u55, u56, u57, u58, u59, u60, u61, u62, u63, u64, u65, u66, u67, u68, u69, u70, u71, u72, u73, u74, u75, u76, u77, u78, u79, u80, u81, u82, u83, u84, u85, u86, u87, u88, u89, u90, u91, u92, u93, u94, u95, u96, u97, u98, u99, u100, u101, u102, u103, u104, u105, u106, u107, u108, u109, u110, u111, u112, u113, u114, u115, u116, u117, u118, u119, u120, u121, u122, u123, u124, u125, u126, u127, u128, u129, u130, u131, u132, u133, u134, u135, u136, u137, u138, u139, u140, u141, u142, u143, u144, u145, u146, u147, u148, u149, u150, u151, u152, u153, u154, u155, u156, u157, u158, u159, u160, u161, u162, u163, u164, u165, u166, u167, u168, u169, u170, u171, u172, u173, u174, u175, u176, u177, u178, u179, u180, u181, u182, u183, u184, u185, u186, u187, u188, u189, u190, u191, u192, u193, u194, u195, u196, u197, u198, u199, u200, u201, u202, u203, u204, u205, u206, u207, u208, u209, u210, u211, u212, u213, u214, u215, u216, u217, u218, u219, u220, u221, u222, u223, u224, u225, u226, u227, u228, u229, u230, u231, u232, u233, u234, u235, u236, u237, u238, u239, u240, u241, u242, u243, u244, u245, u246, u247, u248, u249, u250, u251, u252, u253, u254, u255, u256, u257, u258, u259, u260, u261, u262, u263, u264, u265, u266, u267, u268, u269, u270, u271, u272, u273, u274, u275, u276, u277, u278, u279, u280, u281, u282, u283, u284, u285, u286, u287, u288, u289, u290, u291, u292, u293, u294, u295, u296, u297, u298, u299, u300, u301, u302, u303, u304, u305, u306, u307, u308, u309, u310, u311, u312, u313, u314, u315, u316, u317, u318, u319, u320, u321, u322, u323, u324, u325, u326, u327, u328, u329, u330, u331, u332, u333, u334, u335, u336, u337, u338, u339, u340, u341, u342, u343, u344, u345, u346, u347, u348, u349, u350, u351, u352, u353, u354, u355, u356, u357, u358, u359, u360, u361, u362, u363, u364, u365, u366, u367, u368, u369, u370, u371, u372, u373, u374, u375, u376, u377, u378, u379, u380, u381, u382, u383, u384, u385, u386, u387, u388, u389, u390, u391, u392, u393, u394, u395, u396, u397, u398, u399, u400, u401, u402, u403, u404, u405, u406, u407, u408, u409, u410, u411, u412, u413, u414, u415, u416, u417, u418, u419, u420, u421, u422, u423, u424, u425, u426, u427, u428, u429, u430, u431, u432, u433, u434, u435, u436, u437, u438, u439, u440, u441, u442, u443, u444, u445, u446, u447, u448, u449, u450, u451, u452, u453, u454, u455, u456, u457, u458, u459, u460, u461, u462, u463, u464, u465, u466, u467, u468, u469, u470, u471, u472, u473, u474, u475, u476, u477, u478, u479, u480, u481, u482, u483, u484, u485, u486, u487, u488, u489, u490, u491, u492, u493, u494, u495, u496, u497, u498, u499, u500, u501, u502, u503, u504, u505, u506, u507, u508, u509, u510, u511, u512, u513, u514, u515, u516], []⟩ p.w0 := by
  have hn4 := ok.n
  have hw8 := ok.wid
  have hw1 : IntKind.u8.wrap (p.wid : Int) = (p.wid : Int) := by rw [IntKind.wrap_u8]; omega
  have hw2 : IntKind.i64.wrap (p.wid : Int) = (p.wid : Int) := by rw [IntKind.wrap_i64]; omega
  obtain ⟨Zx, zx1, zx2⟩ := make_any (t := 128) (e := 132) (size := 1) (bytes := 8) (by kernel_rfl) (by kernel_rfl) (by decide) p.n (by omega)
  obtain ⟨Zq, zq1, zq2⟩ := make_any (t := 129) (e := 139) (size := 21) (bytes := 32) (by kernel_rfl) (by kernel_rfl) (by decide) p.n (by omega)
  obtain ⟨Zc, zc1, zc2⟩ := make_any (t := 130) (e := 47) (size := 1) (bytes := 24) (by kernel_rfl) (by kernel_rfl) (by decide) p.n (by omega)
  change (Code.seq (Code.region 11 #[{ dst := some 53, op := Op.move (Operand.tmp 0), type := 5, pos := "zz_law_s6553c.go:61", after := #[], guard := none }, { dst := some 54, op := Op.binOp BinOp.rem 5 (Operand.tmp 53) (Operand.const (Value.int IntKind.u8 9)) 5, type := 5, pos := "zz_law_s6553c.go:61", after := #[{ on := 0, ground := Ground.data }], guard := none }, { dst := some 55, op := Op.convert 5 3 (Operand.tmp 54), type := 3, pos := "zz_law_s6553c.go:61", after := #[{ on := 1, ground := Ground.data }], guard := none }, { dst := some 7, op := Op.assign (Operand.tmp 55), type := 3, pos := "zz_law_s6553c.go:61", after := #[{ on := 2, ground := Ground.data }, { on := 0, ground := Ground.phase }, { on := 1, ground := Ground.phase }, { on := 2, ground := Ground.phase }], guard := none }] false) (Code.seq (Code.region 12 #[{ dst := some 56, op := Op.move (Operand.tmp 7), type := 3, pos := "zz_law_s6553c.go:62", after := #[], guard := none }, { dst := some 57, op := Op.build 127 #[(0, Operand.tmp 56)], type := 127, pos := "zz_law_s6553c.go:62", after := #[{ on := 0, ground := Ground.data }], guard := none }, { dst := some 58, op := Op.box 127 (Operand.tmp 57), type := 124, pos := "zz_law_s6553c.go:62", after := #[{ on := 1, ground := Ground.data }], guard := none }, { dst := some 8, op := Op.assign (Operand.tmp 58), type := 124, pos := "zz_law_s6553c.go:62", after := #[{ on := 2, ground := Ground.data }, { on := 0, ground := Ground.phase }, { on := 1, ground := Ground.phase }, { on := 2, ground := Ground.phase }], guard := none }] false) (Code.seq (Code.region 13 #[{ dst := some 59, op := Op.move (Operand.tmp 1), type := 121, pos := "zz_law_s6553c.go:63", after := #[], guard := none }, { dst := some 60, op := Op.call { callee := Callee.builtin Builtin.len, args := #[Operand.tmp 59], argTypes := #[121] }, type := 3, pos := "zz_law_s6553c.go:63", after := #[{ on := 0, ground := Ground.data }], guard := none }, { dst := some 61, op := Op.makeSlice 128 (Operand.tmp 60) (Operand.tmp 60), type := 128, pos := "zz_law_s6553c.go:63", after := #[{ on := 1, ground := Ground.data }, { on := 1, ground := Ground.data }], guard := none }, { dst := some 9, op := Op.assign (Operand.tmp 61), type := 128, pos := "zz_law_s6553c.go:63", after := #[{ on := 2, ground := Ground.data }, { on := 0, ground := Ground.phase }, { on := 1, ground := Ground.phase }, { on := 2, ground := Ground.phase }], guard := none }] false) (Code.seq (Code.region 14 #[{ dst := some 62, op := Op.move (Operand.tmp 1), type := 121, pos := "zz_law_s6553c.go:64", after := #[], guard := none }, { dst := some 63, op := Op.call { callee := Callee.builtin Builtin.len, args := #[Operand.tmp 62], argTypes := #[121] }, type := 3, pos := "zz_law_s6553c.go:64", after := #[{ on := 0, ground := Ground.data }], guard := none }, { dst := some 64, op := Op.makeSlice 129 (Operand.tmp 63) (Operand.tmp 63), type := 129, pos := "zz_law_s6553c.go:64", after := #[{ on := 1, ground := Ground.data }, { on := 1, ground := Ground.data }], guard := none }, { dst := some 10, op := Op.assign (Operand.tmp 64), type := 129, pos := "zz_law_s6553c.go:64", after := #[{ on := 2, ground := Ground.data }, { on := 0, ground := Ground.phase }, { on := 1, ground := Ground.phase }, { on := 2, ground := Ground.phase }], guard := none }] false) (Code.seq (Code.region 15 #[{ dst := some 65, op := Op.move (Operand.tmp 1), type := 121, pos := "zz_law_s6553c.go:65", after := #[], guard := none }, { dst := some 66, op := Op.call { callee := Callee.builtin Builtin.len, args := #[Operand.tmp 65], argTypes := #[121] }, type := 3, pos := "zz_law_s6553c.go:65", after := #[{ on := 0, ground := Ground.data }], guard := none }, { dst := some 67, op := Op.makeSlice 130 (Operand.tmp 66) (Operand.tmp 66), type := 130, pos := "zz_law_s6553c.go:65", after := #[{ on := 1, ground := Ground.data }, { on := 1, ground := Ground.data }], guard := none }, { dst := some 11, op := Op.assign (Operand.tmp 67), type := 130, pos := "zz_law_s6553c.go:65", after := #[{ on := 2, ground := Ground.data }, { on := 0, ground := Ground.phase }, { on := 1, ground := Ground.phase }, { on := 2, ground := Ground.phase }], guard := none }] false) (tailD 9)))))).wp _ _ _ _
  refine wp_seq (wp_region_list ?_)
  refine wpList_same (.int .u8 width) rfl (by go_simp) ?_
  simp only [Act.put, List.setIfInBounds_toArray, List.set_cons_zero, List.set_cons_succ]
  refine wpList_same (.int .u8 (p.wid : Int)) rfl (by go_simp) ?_
  simp only [Act.put, List.setIfInBounds_toArray, List.set_cons_zero, List.set_cons_succ]
  refine wpList_same (.int .i64 (p.wid : Int)) rfl (by go_simp) ?_
  simp only [Act.put, List.setIfInBounds_toArray, List.set_cons_zero, List.set_cons_succ]
  refine wpList_same (.int .i64 (p.wid : Int)) rfl (by go_simp) ?_
  simp only [Act.put, List.setIfInBounds_toArray, List.set_cons_zero, List.set_cons_succ]
  refine wpList_nil (wp_seq (wp_region_list ?_))
  refine wpList_same (.int .i64 (p.wid : Int)) rfl (by go_simp) ?_
  simp only [Act.put, List.setIfInBounds_toArray, List.set_cons_zero, List.set_cons_succ]
  refine wpList_value rfl (exec_build rfl (build127 p.w0 p.wid) (by simp [Act.eval])) ?_
  simp only [Act.put, List.setIfInBounds_toArray, List.set_cons_zero, List.set_cons_succ]
  refine wpList_value rfl (exec_box rfl rfl) ?_
  simp only [Act.put, List.setIfInBounds_toArray, List.set_cons_zero, List.set_cons_succ]
  rw [← lay.rb]
  have hb1 := heap_new p.w0 (.cells #[.int .i64 (p.wid : Int), .map none, .pointer none] 127)
  have B1 := (Below.refl p.w0.heap.size p.w0).alloc (Nat.le_refl _) (.cells #[.int .i64 (p.wid : Int), .map none, .pointer none] 127)
  have z1 : (p.w0.alloc (.cells #[.int .i64 (p.wid : Int), .map none, .pointer none] 127)).heap.size = p.w0.heap.size + 1 := by simp
  rw [← lay.rb] at hb1
  generalize p.w0.alloc (.cells #[.int .i64 (p.wid : Int), .map none, .pointer none] 127) = w1 at *
  refine wpList_same (.pointer (some ⟨p.rb, 0, none⟩)) rfl (by go_simp) ?_
  simp only [Act.put, List.setIfInBounds_toArray, List.set_cons_zero, List.set_cons_succ]
  refine wpList_nil (wp_seq (wp_region_list ?_))
  refine wpList_same (.slice p.sa p.n p.sc) rfl (by go_simp) ?_
  simp only [Act.put, List.setIfInBounds_toArray, List.set_cons_zero, List.set_cons_succ]
  refine wpList_same (.int .i64 (p.n : Int)) rfl (by go_simp) ?_
  simp only [Act.put, List.setIfInBounds_toArray, List.set_cons_zero, List.set_cons_succ]
  refine wpList_value rfl (exec_makeSlice (x := .tmp 60) (y := .tmp 60) rfl rfl rfl (zx2 w1)) ?_
  simp only [Act.put, List.setIfInBounds_toArray, List.set_cons_zero, List.set_cons_succ]
  rw [show w1.heap.size = p.xb by rw [z1, lay.xb]]
  have G1 := grown_alloc w1 (.cells Zx 132) none
  have t1 := there_new w1 Zx 132 p.n (by rw [zx1, Nat.mul_one])
  rw [show w1.heap.size = p.xb by rw [z1, lay.xb]] at t1
  have z2 : (w1.alloc (.cells Zx 132)).heap.size = p.w0.heap.size + 2 := by simp [z1]
  have hb2 : (w1.alloc (.cells Zx 132)).heap[p.rb]? = w1.heap[p.rb]? := G1.block _ (by rw [z1, lay.rb]; omega) (by simp)
  rw [hb1] at hb2
  have B2 := below_grown B1 G1 (by omega)
  generalize w1.alloc (.cells Zx 132) = w2 at *
  refine wpList_same (.slice (some ⟨p.xb, 0, none⟩) p.n p.n) rfl (by go_simp) ?_
  simp only [Act.put, List.setIfInBounds_toArray, List.set_cons_zero, List.set_cons_succ]
  refine wpList_nil (wp_seq (wp_region_list ?_))
  refine wpList_same (.slice p.sa p.n p.sc) rfl (by go_simp) ?_
  simp only [Act.put, List.setIfInBounds_toArray, List.set_cons_zero, List.set_cons_succ]
  refine wpList_same (.int .i64 (p.n : Int)) rfl (by go_simp) ?_
  simp only [Act.put, List.setIfInBounds_toArray, List.set_cons_zero, List.set_cons_succ]
  refine wpList_value rfl (exec_makeSlice (x := .tmp 63) (y := .tmp 63) rfl rfl rfl (zq2 w2)) ?_
  simp only [Act.put, List.setIfInBounds_toArray, List.set_cons_zero, List.set_cons_succ]
  rw [show w2.heap.size = p.qb by rw [z2, lay.qb]]
  have G2 := grown_alloc w2 (.cells Zq 139) none
  have t2 := there_new w2 Zq 139 (p.n * 21) zq1
  rw [show w2.heap.size = p.qb by rw [z2, lay.qb]] at t2
  have z3 : (w2.alloc (.cells Zq 139)).heap.size = p.w0.heap.size + 3 := by simp [z2]
  have hb3 : (w2.alloc (.cells Zq 139)).heap[p.rb]? = w2.heap[p.rb]? := G2.block _ (by rw [z2, lay.rb]; omega) (by simp)
  rw [hb2] at hb3
  have B3 := below_grown B2 G2 (by omega)
  have t12 := there_fr t1 (fr_of_grown G2) (fun e => e) (by rw [z2, lay.xb]; omega)
  generalize w2.alloc (.cells Zq 139) = w3 at *
  refine wpList_same (.slice (some ⟨p.qb, 0, none⟩) p.n p.n) rfl (by go_simp) ?_
  simp only [Act.put, List.setIfInBounds_toArray, List.set_cons_zero, List.set_cons_succ]
  refine wpList_nil (wp_seq (wp_region_list ?_))
  refine wpList_same (.slice p.sa p.n p.sc) rfl (by go_simp) ?_
  simp only [Act.put, List.setIfInBounds_toArray, List.set_cons_zero, List.set_cons_succ]
  refine wpList_same (.int .i64 (p.n : Int)) rfl (by go_simp) ?_
  simp only [Act.put, List.setIfInBounds_toArray, List.set_cons_zero, List.set_cons_succ]
  refine wpList_value rfl (exec_makeSlice (x := .tmp 66) (y := .tmp 66) rfl rfl rfl (zc2 w3)) ?_
  simp only [Act.put, List.setIfInBounds_toArray, List.set_cons_zero, List.set_cons_succ]
  rw [show w3.heap.size = p.cb by rw [z3, lay.cb]]
  have G3 := grown_alloc w3 (.cells Zc 47) none
  have t3 := there_new w3 Zc 47 p.n (by rw [zc1, Nat.mul_one])
  rw [show w3.heap.size = p.cb by rw [z3, lay.cb]] at t3
  have z4 : (w3.alloc (.cells Zc 47)).heap.size = p.w0.heap.size + 4 := by simp [z3]
  have hb4 : (w3.alloc (.cells Zc 47)).heap[p.rb]? = w3.heap[p.rb]? := G3.block _ (by rw [z3, lay.rb]; omega) (by simp)
  rw [hb3] at hb4
  have B4 := below_grown B3 G3 (by omega)
  have t13 := there_fr t12 (fr_of_grown G3) (fun e => e) (by rw [z3, lay.xb]; omega)
  have t23 := there_fr t2 (fr_of_grown G3) (fun e => e) (by rw [z3, lay.qb]; omega)
  generalize w3.alloc (.cells Zc 47) = w4 at *
  refine wpList_same (.slice (some ⟨p.cb, 0, none⟩) p.n p.n) rfl (by go_simp) ?_
  simp only [Act.put, List.setIfInBounds_toArray, List.set_cons_zero, List.set_cons_succ]
  refine wpList_nil ?_
  have hz : EAt0 p.B p.rb p.wid w4 := ⟨by rw [lay.rb, lay.B]; omega, by rw [lay.B, z4]; exact Nat.le_refl _, hb4⟩
  have h : At2 p (fun _ => 0) (fun _ => nilRow) 0 [] (List.replicate 161 0) [] w4 := by
    refine ⟨B4, hz.size, .none hz, fun _ => hz, fun e => absurd e (Nat.lt_irrefl _), fun b hb => (by cases hb), fun m hm => absurd hm (Nat.not_lt_zero _), t23, fun m hm => absurd hm (Nat.not_lt_zero _), t13, fun m hm => absurd hm (Nat.not_lt_zero _), t3, fun m hm => absurd hm (Nat.not_lt_zero _), fun m hm => absurd hm (Nat.not_lt_zero _), fun m hm => absurd hm (Nat.not_lt_zero _), fun m hm => absurd hm (Nat.not_lt_zero _), fun k g q hg => (by cases hg), Rel.nil _ _ _, ?_⟩
    exact cnt_zero p.D
  exact tailD9 p ok hvl _ _ _ _ _ w4 h _ _ _ _ _ _ _ _ _ _ _ _ _ _ _ _ _ _ _ _ _ _ _ _ _ _ _ _ _ _ _ _ _ _ _ _ _ _ _ _ _ _ _ _ _ _ _ _ _ _ _ _ _ _ _ _ _ _ _ _ _ _ _ _ _ _ _ _ _ _ _ _ _ _ _ _ _ _ _ _ _ _ _ _ _ _ _ _ _ _ _ _ _ _ _ _ _ _ _ _ _ _ _ _ _ _ _ _ _ _ _ _ _ _ _ _ _ _ _ _ _ _ _ _ _ _ _ _ _ _ _ _ _ _ _ _ _ _ _ _ _ _ _ _ _ _ _ _ _ _ _ _ _ _ _ _ _ _ _ _ _ _ _ _ _ _ _ _ _ _ _ _ _ _ _ _ _ _ _ _ _ _ _ _ _ _ _ _ _ _ _ _ _ _ _ _ _ _ _ _ _ _ _ _ _ _ _ _ _ _ _ _ _ _ _ _ _ _ _ _ _ _ _ _ _ _ _ _ _ _ _ _ _ _ _ _ _ _ _ _ _ _ _ _ _ _ _ _ _ _ _ _ _ _ _ _ _ _ _ _ _ _ _ _ _ _ _ _ _ _ _ _ _ _ _ _ _ _ _ _ _ _ _ _ _ _ _ _ _ _ _ _ _ _ _ _ _ _ _ _ _ _ _ _ _ _ _ _ _ _ _ _ _ _ _ _ _ _ _ _ _ _ _ _ _ _ _ _ _ _ _ _ _ _ _ _ _ _ _ _ _ _ _ _ _ _ _ _ _ _ _ _ _ _ _ _ _ _ _ _ _ _ _ _ _ _ _ _ _ _ _ _ _ _ _ _ _ _ _ _ _ _ _ _ _ _ _ _ _ _ _ _ _ _ _ _ _ _ _ _ _ _ _ _ _ _ _ _ _ _ _ _ _ _ _ _ _ _ _ _ _ _ _ _ _ _ _ _ _ _ _ _ _ _ _ _ _ _ _ _ _ _ _ _ _ _ _ _ _ _ _ _ _ _ _ _ _ _ _ _ _ _ _ _ _ _ _ _ _ _ _ _ _ _ _ _ _ _ _ _ _ _ _ _ _ _ _ _ _ _ _ _ _ _ _ _ _ _ _ _ _ _ _ _ _ _ _ _ _ _ _

end Go.Proofs.Ybulkeero
