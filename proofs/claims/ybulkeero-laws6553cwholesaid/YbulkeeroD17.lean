/- The law 6553C: the counts of the depths (regions 87 to 99). -/
import Derived.Test.YbulkeeroCSt
namespace Go.Proofs.Ybulkeero
open Go.RowKit Go.Joins

theorem wrap_up (k : Nat) (h : k ≤ 1000000000) : IntKind.i64.wrap ((k : Int) + 1) = (k : Int) + 1 := by rw [IntKind.wrap_i64]; omega
theorem At2.depth {p : P5} {its : Nat → Nat} {cs : Nat → Row} {gs : List Grp} {cnt foot : List Nat} {w : World} {S : FS} (h : At2 p its cs p.n gs cnt foot w) (A : FAt p.B p.rb p.wid w S) (hc : S.cnt = cnt) {d : Nat} (hd : d < 161) : w.cell? ⟨S.db, d, none⟩ = some (.int .i64 (cntD p.D d p.n : Int)) := by
  refine (A.depth (c := cntD p.D d p.n) ?_).1
  rw [hc, h.cnts, List.getElem?_map, List.getElem?_range hd]
  rfl

set_option maxHeartbeats 4000000 in
set_option maxRecDepth 20000 in
theorem tailD17 (p : P5) (ok : Ok5 p) (its : Nat → Nat) (cs : Nat → Row) (gs : List Grp) (cnt foot : List Nat) (w : World) (h : At2 p its cs p.n gs cnt foot w) (hn : 0 < p.n) (u0 u1 u2 u3 u4 u5 u6 u7 u9 u11 u12 u13 u14 u15 u16 u17 u18 u19 u20 u21 u22 u23 u24 u25 u26 u27 u28 u29 u30 u31 u32 u33 u34 u35 u36 u37 u38 u39 u40 u41 u42 u43 u44 u45 u46 u47 u48 u49 u50 u51 u52 u53 u54 u55 u56 u57 u58 u59 u60 u61 u62 u63 u64 u65 u66 u67 u68 u69 u70 u71 u72 u73 u74 u75 u76 u77 u78 u79 u80 u81 u82 u83 u84 u85 u86 u87 u88 u89 u90 u91 u92 u93 u94 u95 u96 u97 u98 u99 u100 u101 u102 u103 u104 u105 u106 u107 u108 u109 u110 u111 u112 u113 u114 u115 u116 u117 u118 u119 u120 u121 u122 u123 u124 u125 u126 u127 u128 u129 u130 u131 u132 u133 u134 u135 u136 u137 u138 u139 u140 u141 u142 u143 u144 u145 u146 u147 u148 u149 u150 u151 u152 u153 u154 u155 u156 u157 u158 u159 u160 u161 u162 u163 u164 u165 u166 u167 u168 u169 u170 u171 u172 u173 u174 u175 u176 u177 u178 u179 u180 u181 u182 u183 u184 u185 u186 u187 u188 u189 u190 u191 u192 u193 u194 u195 u196 u197 u198 u199 u200 u201 u202 u203 u204 u205 u206 u207 u208 u209 u210 u211 u212 u213 u214 u215 u216 u217 u218 u219 u220 u221 u222 u223 u224 u225 u226 u227 u228 u229 u230 u231 u232 u233 u234 u235 u236 u237 u238 u239 u240 u241 u242 u243 u244 u245 u246 u247 u248 u249 u250 u251 u252 u253 u254 u255 u256 u257 u258 u259 u260 u261 u262 u263 u264 u265 u266 u267 u268 u269 u270 u271 u272 u273 u274 u275 u276 u277 u278 u279 u280 u281 u282 u283 u284 u285 u286 u287 u288 u289 u290 u291 u292 u293 u294 u295 u296 u297 u298 u299 u300 u301 u302 u303 u304 u305 u306 u307 u308 u309 u310 u311 u312 u313 u314 u315 u316 u317 u318 u319 u320 u321 u322 u323 u324 u325 u326 u327 u328 u329 u330 u331 u332 u333 u334 u335 u336 u337 u338 u339 u340 u341 u342 u343 u344 u345 u346 u347 u348 u349 u350 u351 u352 u353 u354 u355 u356 u357 u358 u359 u360 u361 u362 u363 u364 u365 u366 u367 u368 u369 u370 u371 u372 u373 u374 u375 u376 u377 u378 u379 u380 u381 u382 u383 u384 u385 u386 u387 u388 u389 u390 u391 u392 u393 u394 u395 u396 u397 u398 u399 u400 u401 u402 u403 u404 u405 u406 u407 u408 u409 u410 u411 u412 u413 u414 u415 u416 u417 u418 u419 u420 u421 u422 u423 u424 u425 u426 u427 u428 u429 u430 u431 u432 u433 u434 u435 u436 u437 u438 u439 u440 u441 u442 u443 u444 u445 u446 u447 u448 u449 u450 u451 u452 u453 u454 u455 u456 u457 u458 u459 u460 u461 u462 u463 u464 u465 u466 u467 u468 u469 u470 u471 u472 u473 u474 u475 u476 u477 u478 u479 u480 u481 u482 u483 u484 u485 u486 u487 u488 u489 u490 u491 u492 u493 u494 u495 u496 u497 u498 u499 u500 u501 u502 u503 u504 u505 u506 u507 u508 u509 u510 u511 u512 u513 u514 u515 u516 : Value) :
    (tailD 17).wp Yba.prog (bodyPost Yba.prog Yba.f5 (LawE p.w0)) ⟨#[u0, u1, u2, u3, u4, u5, u6, u7, .pointer (some ⟨p.rb, 0, none⟩), u9, .slice (some ⟨p.qb, 0, none⟩) p.n p.n, u11, u12, u13, u14, u15, u16, u17, u18, u19, u20, u21, u22, u23, u24, u25, u26, u27, u28, u29, u30, u31, u32, u33, u34, u35, u36, u37, u38, u39, u40, u41, u42, u43, u44, u45, u46, u47, u48, u49, u50, u51, u52, u53, u54, u55, u56, u57, u58, u59, u60, u61, u62, u63, u64, u65, u66, u67, u68, u69, u70, u71, u72, u73, u74, u75, u76, u77, u78, u79, u80, u81, u82, u83, u84, u85, u86, u87, u88, u89, u90, u91, u92, u93, u94, u95, u96, u97, u98, u99, u100, u101, u102, u103, u104, u105, u106, u107, u108, u109, u110, u111, u112, u113, u114, u115, u116, u117, u118, u119, u120, u121, u122, u123, u124, u125, u126, u127, u128, u129, u130, u131, u132, u133, u134, u135, u136, u137, u138, u139, u140, u141, u142, u143, u144, u145, u146, u147, u148, u149, u150, u151, u152, u153, u154, u155, u156, u157, u158, u159, u160, u161, u162, u163, u164, u165, u166, u167, u168, u169, u170, u171, u172, u173, u174, u175, u176, u177, u178, u179, u180, u181, u182, u183, u184, u185, u186, u187, u188, u189, u190, u191, u192, u193, u194, u195, u196, u197, u198, u199, u200, u201, u202, u203, u204, u205, u206, u207, u208, u209, u210, u211, u212, u213, u214, u215, u216, u217, u218, u219, u220, u221, u222, u223, u224, u225, u226, u227, u228, u229, u230, u231, u232, u233, u234, u235, u236, u237, u238, u239, u240, u241, u242, u243, u244, u245, u246, u247, u248, u249, u250, u251, u252, u253, u254, u255, u256, u257, u258, u259, u260, u261, u262, u263, u264, u265, u266, u267, u268, u269, u270, u271, u272, u273, u274, u275, u276, u277, u278, u279, u280, u281, u282, u283, u284, u285, u286, u287, u288, u289, u290, u291, u292, u293, u294, u295, u296, u297, u298, u299, u300, u301, u302, u303, u304, u305, u306, u307, u308, u309, u310, u311, u312, u313, u314, u315, u316, u317, u318, u319, u320, u321, u322, u323, u324, u325, u326, u327, u328, u329, u330, u331, u332, u333, u334, u335, u336, u337, u338, u339, u340, u341, u342, u343, u344, u345, u346, u347, u348, u349, u350, u351, u352, u353, u354, u355, u356, u357, u358, u359, u360, u361, u362, u363, u364, u365, u366, u367, u368, u369, u370, u371, u372, u373, u374, u375, u376, u377, u378, u379, u380, u381, u382, u383, u384, u385, u386, u387, u388, u389, u390, u391, u392, u393, u394, u395, u396, u397, u398, u399, u400, u401, u402, u403, u404, u405, u406, u407, u408, u409, u410, u411, u412, u413, u414, u415, u416, u417, u418, u419, u420, u421, u422, u423, u424, u425, u426, u427, u428, u429, u430, u431, u432, u433, u434, u435, u436, u437, u438, u439, u440, u441, u442, u443, u444, u445, u446, u447, u448, u449, u450, u451, u452, u453, u454, u455, u456, u457, u458, u459, u460, u461, u462, u463, u464, u465, u466, u467, u468, u469, u470, u471, u472, u473, u474, u475, u476, u477, u478, u479, u480, u481, u482, u483, u484, u485, u486, u487, u488, u489, u490, u491, u492, u493, u494, u495, u496, u497, u498, u499, u500, u501, u502, u503, u504, u505, u506, u507, u508, u509, u510, u511, u512, u513, u514, u515, u516], []⟩ w := by
  obtain ⟨S, A, hS1, hS2⟩ := h.full hn
  have hr2 := A.cells.2.2
  have HD := hid (fun d hd => h.depth A hS2 (d := d) hd)
  have HQ := hid h.qs
  have HB := hid h.below
  have HN := hid ok.n
  clear h A
  generalize hnn : p.n = nn at *
  change (Code.seq (Code.seq (Code.region 87 #[{ dst := some 31, op := Op.assign (Operand.const (Value.int IntKind.i64 0)), type := 3, pos := "zz_law_s6553c.go:139", after := #[], guard := none }] false) (Code.block 18 (((Code.region 88 #[{ dst := some 488, op := Op.move (Operand.tmp 31), type := 3, pos := "zz_law_s6553c.go:139", after := #[], guard := none }, { dst := some 489, op := Op.binOp BinOp.leq 3 (Operand.tmp 488) (Operand.const (Value.int IntKind.i64 160)) 3, type := 4, pos := "zz_law_s6553c.go:139", after := #[{ on := 0, ground := Ground.data }], guard := none }] false).seq (Code.cond (Operand.tmp 489) Code.skip (Code.exit 18))).seq ((Code.block 19 ((Code.region 90 #[{ dst := some 32, op := Op.assign (Operand.const (Value.int IntKind.i64 0)), type := 3, pos := "zz_law_s6553c.go:140", after := #[], guard := none }] false).seq (((Code.region 91 #[{ dst := some 492, op := Op.move (Operand.tmp 10), type := 129, pos := "zz_law_s6553c.go:141", after := #[], guard := none }, { dst := some 493, op := Op.call { callee := Callee.builtin Builtin.len, args := #[Operand.tmp 492], argTypes := #[129] }, type := 3, pos := "zz_law_s6553c.go:141", after := #[{ on := 0, ground := Ground.data }], guard := none }, { dst := some 494, op := Op.move (Operand.const (Value.int IntKind.i64 0)), type := 3, pos := "zz_law_s6553c.go:141", after := #[], guard := none }] false).seq (Code.block 20 ((Code.region 92 #[{ dst := some 495, op := Op.binOp BinOp.lss 3 (Operand.tmp 494) (Operand.tmp 493) 3, type := 0, pos := "zz_law_s6553c.go:141", after := #[], guard := none }] false).seq ((Code.cond (Operand.tmp 495) Code.skip (Code.exit 20)).seq ((Code.block 21 ((Code.region 93 #[{ dst := some 496, op := Op.move (Operand.tmp 494), type := 3, pos := "zz_law_s6553c.go:141", after := #[], guard := none }, { dst := some 33, op := Op.assign (Operand.tmp 496), type := 3, pos := "zz_law_s6553c.go:141", after := #[{ on := 0, ground := Ground.data }, { on := 0, ground := Ground.phase }], guard := none }] false).seq ((Code.region 94 #[{ dst := some 497, op := Op.move (Operand.tmp 10), type := 129, pos := "zz_law_s6553c.go:142", after := #[], guard := none }, { dst := some 498, op := Op.move (Operand.tmp 33), type := 3, pos := "zz_law_s6553c.go:142", after := #[], guard := none }, { dst := some 499, op := Op.indexAddr 129 (Operand.tmp 497) (Operand.tmp 498), type := 0, pos := "zz_law_s6553c.go:142", after := #[{ on := 0, ground := Ground.data }, { on := 1, ground := Ground.data }], guard := none }, { dst := some 500, op := Op.fieldAddr 139 (Operand.tmp 499) 0, type := 0, pos := "zz_law_s6553c.go:142", after := #[{ on := 2, ground := Ground.data }], guard := none }, { dst := some 501, op := Op.load 3 (Operand.tmp 500), type := 3, pos := "zz_law_s6553c.go:142", after := #[{ on := 3, ground := Ground.data }], guard := none }, { dst := some 502, op := Op.move (Operand.tmp 31), type := 3, pos := "zz_law_s6553c.go:142", after := #[], guard := none }, { dst := some 503, op := Op.binOp BinOp.eql 3 (Operand.tmp 501) (Operand.tmp 502) 3, type := 4, pos := "zz_law_s6553c.go:142", after := #[{ on := 4, ground := Ground.data }, { on := 5, ground := Ground.data }], guard := none }] false).seq (Code.cond (Operand.tmp 503) (Code.region 95 #[{ dst := some 504, op := Op.move (Operand.tmp 32), type := 3, pos := "zz_law_s6553c.go:143", after := #[], guard := none }, { dst := some 505, op := Op.binOp BinOp.add 3 (Operand.tmp 504) (Operand.const (Value.int IntKind.i64 1)) 3, type := 3, pos := "zz_law_s6553c.go:143", after := #[{ on := 0, ground := Ground.data }], guard := none }, { dst := some 32, op := Op.assign (Operand.tmp 505), type := 3, pos := "zz_law_s6553c.go:143", after := #[{ on := 1, ground := Ground.data }, { on := 0, ground := Ground.phase }, { on := 1, ground := Ground.phase }], guard := none }] false) Code.skip)))).seq (Code.region 96 #[{ dst := some 506, op := Op.binOp BinOp.add 3 (Operand.tmp 494) (Operand.const (Value.int IntKind.i64 1)) 3, type := 3, pos := "zz_law_s6553c.go:141", after := #[], guard := none }, { dst := some 494, op := Op.move (Operand.tmp 506), type := 3, pos := "zz_law_s6553c.go:141", after := #[{ on := 0, ground := Ground.data }], guard := none }] false)))).loop)).seq ((Code.region 97 #[{ dst := some 507, op := Op.move (Operand.tmp 8), type := 124, pos := "zz_law_s6553c.go:146", after := #[], guard := none }, { dst := some 508, op := Op.nilCheck (Operand.tmp 507), type := 0, pos := "zz_law_s6553c.go:146", after := #[{ on := 0, ground := Ground.data }], guard := none }, { dst := some 509, op := Op.fieldAddr 127 (Operand.tmp 508) 2, type := 0, pos := "zz_law_s6553c.go:146", after := #[{ on := 1, ground := Ground.data }], guard := none }, { dst := some 510, op := Op.load 43 (Operand.tmp 509), type := 43, pos := "zz_law_s6553c.go:146", after := #[{ on := 2, ground := Ground.data }], guard := none }, { dst := some 511, op := Op.move (Operand.tmp 31), type := 3, pos := "zz_law_s6553c.go:146", after := #[], guard := none }, { dst := some 512, op := Op.nilCheck (Operand.tmp 510), type := 0, pos := "zz_law_s6553c.go:146", after := #[{ on := 3, ground := Ground.data }], guard := none }, { dst := some 513, op := Op.indexAddr 173 (Operand.tmp 512) (Operand.tmp 511), type := 0, pos := "zz_law_s6553c.go:146", after := #[{ on := 5, ground := Ground.data }, { on := 4, ground := Ground.data }], guard := none }, { dst := some 514, op := Op.load 3 (Operand.tmp 513), type := 3, pos := "zz_law_s6553c.go:146", after := #[{ on := 6, ground := Ground.data }], guard := none }, { dst := some 515, op := Op.move (Operand.tmp 32), type := 3, pos := "zz_law_s6553c.go:146", after := #[], guard := none }, { dst := some 516, op := Op.binOp BinOp.neq 3 (Operand.tmp 514) (Operand.tmp 515) 3, type := 4, pos := "zz_law_s6553c.go:146", after := #[{ on := 7, ground := Ground.data }, { on := 8, ground := Ground.data }], guard := none }] false).seq (Code.cond (Operand.tmp 516) ((Code.region 98 #[{ dst := some 4, op := Op.assign (Operand.const (Value.bool false)), type := 4, pos := "zz_law_s6553c.go:147", after := #[], guard := none }] false).seq Code.ret) Code.skip))))).seq (Code.region 89 #[{ dst := some 490, op := Op.move (Operand.tmp 31), type := 3, pos := "zz_law_s6553c.go:139", after := #[], guard := none }, { dst := some 491, op := Op.binOp BinOp.add 3 (Operand.tmp 490) (Operand.const (Value.int IntKind.i64 1)) 3, type := 3, pos := "zz_law_s6553c.go:139", after := #[{ on := 0, ground := Ground.data }], guard := none }, { dst := some 31, op := Op.assign (Operand.tmp 491), type := 3, pos := "zz_law_s6553c.go:139", after := #[{ on := 1, ground := Ground.data }, { on := 0, ground := Ground.phase }, { on := 1, ground := Ground.phase }], guard := none }] false))).loop)) (Code.seq (Code.region 99 #[{ dst := some 4, op := Op.assign (Operand.const (Value.bool true)), type := 4, pos := "zz_law_s6553c.go:150", after := #[], guard := none }] false) Code.ret)).wp _ _ _ _
  go_wp2
  go_loopw [31] (fun v wr => ∃ d : Nat, d ≤ 161 ∧ v = .int .i64 (d : Int) ∧ wr = w) (fun v _ => 161 - (intOf v).toNat)
  case atStart => exact ⟨0, by omega, by rfl, by rfl⟩
  case round =>
    obtain ⟨d, hd, rfl, rfl⟩ := hrel
    by_cases hd1 : d ≤ 160
    case neg =>
      have j1 : (160 : Int) < (d : Int) := by omega
      go_wp2
      exact bodyPost_ret (results_tmp rfl _ _ _) rfl ⟨rfl, HB.out⟩
    case pos =>
      have j1 : (d : Int) ≤ 160 := by omega
      go_wp2
      go_loopw [32, 494] (fun v i w2 => ∃ k : Nat, k ≤ nn ∧ v = .int .i64 (cntD p.D d k : Int) ∧ i = .int .i64 (k : Int) ∧ w2 = wr) (fun _ i _ => nn - (intOf i).toNat)
      case atStart => exact ⟨0, by omega, by rfl, by rfl, by rfl⟩
      case round =>
        obtain ⟨k, hk, rfl, rfl, rfl⟩ := hrel
        by_cases hkn : k < nn
        case neg =>
          obtain rfl : k = nn := by omega
          have hdc := HD.out d (by omega)
          have HW := hid (wrap_up d (by omega))
          generalize cntD p.D d k = c at *
          have j2 : (0 : Int) ≤ (d : Int) := by omega
          have j3 : (d : Int) < 161 := by omega
          go_wp2
          have hw1 := HW.out
          go_wp2
          go_roundw
          case rel => exact ⟨d + 1, by omega, by go_num, by first | rfl | trivial⟩
          case measure => simp [intOf]; omega
        case pos =>
          have j2 : (k : Int) < (nn : Int) := by omega
          have j0 : (0 : Int) ≤ (k : Int) := by omega
          have hcell : wr.cell? ⟨p.qb, k * 21, none⟩ = some (.int .i64 (p.D k : Int)) := by have := HQ.out k hkn 0 _ rfl; simpa using this
          have HW := hid (wrap_up (cntD p.D d k) (by have := cntD_le p.D d k; have := HN.out; omega))
          have HW2 := hid (wrap_up k (by have := HN.out; omega))
          by_cases he : p.D k = d
          case pos =>
            have hq : (p.D k : Int) = (d : Int) := by omega
            have hcd : cntD p.D d (k + 1) = cntD p.D d k + 1 := by simp [cntD, he]
            have HCD := hid hcd
            clear hcd he
            generalize p.D k = dk at *
            generalize cntD p.D d k = c at *
            have hw1 := HW.out
            have hw2 := HW2.out
            go_wp2
            clear hw1 hw2
            go_roundw
            case rel => exact ⟨k + 1, by omega, by rw [HCD.out]; go_num, by go_num, by first | rfl | trivial⟩
            case measure => simp [intOf]; omega
          case neg =>
            have hq : ¬ ((p.D k : Int) = (d : Int)) := by omega
            have hcd : cntD p.D d (k + 1) = cntD p.D d k := by simp [cntD, he]
            have HCD := hid hcd
            clear hcd he
            generalize p.D k = dk at *
            generalize cntD p.D d k = c at *
            have hw2 := HW2.out
            go_wp2
            clear hw2
            go_roundw
            case rel => exact ⟨k + 1, by omega, by rw [HCD.out], by go_num, by first | rfl | trivial⟩
            case measure => simp [intOf]; omega

end Go.Proofs.Ybulkeero
