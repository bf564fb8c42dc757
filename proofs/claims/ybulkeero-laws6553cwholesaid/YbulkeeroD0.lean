/- The law 6553C: the lengths are summed (regions 0 to 10). -/
import Derived.Test.YbulkeeroD4
namespace Go.Proofs.Ybulkeero
open Go.RowKit Go.Joins

set_option maxHeartbeats 8000000 in
set_option maxRecDepth 20000 in
theorem tailD2 (p : P5) (ok : Ok5 p) (lay : Laid5 p) (hbig : ∀ m, m < p.n → (p.st m).vs.length ≤ 1000000000000000) (width : Int) (hwd : width.tmod 9 = (p.wid : Int)) (u2 u3 u4 u5 u6 u7 u8 u9 u10 u11 u12 u13 u14 u15 u16 u17 u18 u19 u20 u21 u22 u23 u24 u25 u26 u27 u28 u29 u30 u31 u32 u33 u34 u35 u36 u37 u38 u39 u40 u41 u42 u43 u44 u45 u46 u47 u48 u49 u50 u51 u52 u53 u54 u55 u56 u57 u58 u59 u60 u61 u62 u63 u64 u65 u66 u67 u68 u69 u70 u71 u72 u73 u74 u75 u76 u77 u78 u79 u80 u81 u82 u83 u84 u85 u86 u87 u88 u89 u90 u91 u92 u93 u94 u95 u96 u97 u98 u99 u100 u101 u102 u103 u104 u105 u106 u107 u108 u109 u110 u111 u112 u113 u114 u115 u116 u117 u118 u119 u120 u121 u122 u123 u124 u125 u126 u127 u128 u129 u130 u131 u132 u133 u134 u135 u136 u137 u138 u139 u140 u141 u142 u143 u144 u145 u146 u147 u148 u149 u150 u151 u152 u153 u154 u155 u156 u157 u158 u159 u160 u161 u162 u163 u164 u165 u166 u167 u168 u169 u170 u171 u172 u173 u174 u175 u176 u177 u178 u179 u180 u181 u182 u183 u184 u185 u186 u187 u188 u189 u190 u191 u192 u193 u194 u195 u196 u197 u198 u199 u200 u201 u202 u203 u204 u205 u206 u207 u208 u209 u210 u211 u212 u213 u214 u215 u216 u217 u218 u219 u220 u221 u222 u223 u224 u225 u226 u227 u228 u229 u230 u231 u232 u233 u234 u235 u236 u237 u238 u239 u240 u241 u242 u243 u244 u245 u246 u247 u248 u249 u250 u251 u252 u253 u254 u255 u256 u257 u258 u259 u260 u261 u262 u263 u264 u265 u266 u267 u268 u269 u270 u271 u272 u273 u274 u275 u276 u277 u278 u279 u280 u281 u282 u283 u284 u285 u286 u287 u288 u289 u290 u291 u292 u293 u294 u295 u296 u297 u298 u299 u300 u301 u302 u303 u304 u305 u306 u307 u308 u309 u310 u311 u312 u313 u314 u315 u316 u317 u318 u319 u320 u321 u322 u323 u324 u325 u326 u327 u328 u329 u330 u331 u332 u333 u334 u335 u336 u337 u338 u339 u340 u341 u342 u343 u344 u345 u346 u347 u348 u349 u350 u351 u352 u353 u354 u355 u356 u357 u358 u359 u360 u361 u362 u363 u364 u365 u366 u367 u368 u369 u370 u371 u372 u373 u374 u375 u376 u377 u378 u379 u380 u381 u382 u383 u384 u385 u386 u387 u388 u389 u390 u391 u392 u393 u394 u395 u396 u397 u398 u399 u400 u401 u402 u403 u404 u405 u406 u407 u408 u409 u410 u411 u412 u413 u414 u415 u416 u417 u418 u419 u420 u421 u422 u423 u424 u425 u426 u427 u428 u429 u430 u431 u432 u433 u434 u435 u436 u437 u438 u439 u440 u441 u442 u443 u444 u445 u446 u447 u448 u449 u450 u451 u452 u453 u454 u455 u456 u457 u458 u459 u460 u461 u462 u463 u464 u465 u466 u467 u468 u469 u470 u471 u472 u473 u474 u475 u476 u477 u478 u479 u480 u481 u482 u483 u484 u485 u486 u487 u488 u489 u490 u491 u492 u493 u494 u495 u496 u497 u498 u499 u500 u501 u502 u503 u504 u505 u506 u507 u508 u509 u510 u511 u512 u513 u514 u515 u516 : Value) :
    (tailD 2).wp Yba.prog (bodyPost Yba.prog Yba.f5 (LawE p.w0)) ⟨#[.int .u8 width, .slice p.sa p.n p.sc, u2, u3, u4, u5, u6, u7, u8, u9, u10, u11, u12, u13, u14, u15, u16, u17, u18, u19, u20, u21, u22, u23, u24, u25, u26, u27, u28, u29, u30, u31, u32, u33, u34, u35, u36, u37, u38, u39, u40, u41, u42, u43, u44, u45, u46, u47, u48, u49, u50, u51, u52, u53, u54, u55, u56, u57, u58, u59, u60, u61, u62, u63, u64, u65, u66, u67, u68, u69, u70, u71, u72, u73, u74, u75, u76, u77, u78, u79, u80, u81, u82, u83, u84, u85, u86, u87, u88, u89, u90, u91, u92, u93, u94, u95, u96, u97, u98, u99, u100, u101, u102, u103, u104, u105, u106, u107, u108, u109, u110, u111, u112, u113, u114, u115, u116, u117, u118, u119, u120, u121, u122, u123, u124, u125, u126, u127, u128, u129, u130, u131, u132, u133, u134, u135, u136, u137, u138, u139, u140, u141, u142, u143, u144, u145, u146, u147, u148, u149, u150, u151, u152, u153, u154, u155, u156, u157, u158, u159, u160, u161, u162, u163, u164, u165, u166, u167, u168, u169, u170, u171, u172, u173, u174, u175, u176, u177, u178, u179, u180, u181, u182, u183, u184, u185, u186, u187, u188, u189, u190, u191, u192, u193, u194, u195, u196, u197, u198, u199, u200, u201, u202, u203, u204, u205, u206, u207, u208, u209, u210, u211, u212, u213, u214, u215, u216, u217, u218, u219, u220, u221, u222, u223, u224, u225, u226, u227, u228, u229, u230, u231, u232, u233, u234, u235, u236, u237, u238, u239, u240, u241, u242, u243, u244, u245, u246, u247, u248, u249, u250, u251, u252, u253, u254, u255, u256, u257, u258, u259, u260, u261, u262, u263, u264, u265, u266, u267, u268, u269, u270, u271, u272, u273, u274, u275, u276, u277, u278, u279, u280, u281, u282, u283, u284, u285, u286, u287, u288, u289, u290, u291, u292, u293, u294, u295, u296, u297, u298, u299, u300, u301, u302, u303, u304, u305, u306, u307, u308, u309, u310, u311, u312, u313, u314, u315, u316, u317, u318, u319, u320, u321, u322, u323, u324, u325, u326, u327, u328, u329, u330, u331, u332, u333, u334, u335, u336, u337, u338, u339, u340, u341, u342, u343, u344, u345, u346, u347, u348, u349, u350, u351, u352, u353, u354, u355, u356, u357, u358, u359, u360, u361, u362, u363, u364, u365, u366, u367, u368, u369, u370, u371, u372, u373, u374, u375, u376, u377, u378, u379, u380, u381, u382, u383, u384, u385, u386, u387, u388, u389, u390, u391, u392, u393, u394, u395, u396, u397, u398, u399, u400, u401, u402, u403, u404, u405, u406, u407, u408, u409, u410, u411, u412, u413, u414, u415, u416, u417, u418, u419, u420, u421, u422, u423, u424, u425, u426, u427, u428, u429, u430, u431, u432, u433, u434, u435, u436, u437, u438, u439, u440, u441, u442, u443, u444, u445, u446, u447, u448, u449, u450, u451, u452, u453, u454, u455, u456, u457, u458, u459, u460, u461, u462, u463, u464, u465, u466, u467, u468, u469, u470, u471, u472, u473, u474, u475, u476, u477, u478, u479, u480, u481, u482, u483, u484, u485, u486, u487, u488, u489, u490, u491, u492, u493, u494, u495, u496, u497, u498, u499, u500, u501, u502, u503, u504, u505, u506, u507, u508, u509, u510, u511, u512, u513, u514, u515, u516], []⟩ p.w0 := by
  have HO := hid ok
  have HL := hid lay
  have HWD := hid hwd
  have HBG := hid hbig
  have hn4 := ok.n
  obtain ⟨sa, hsa⟩ : ∃ sa, sa = p.sa := ⟨_, rfl⟩
  rw [← hsa]
  have HSA := hid hsa
  clear hsa ok lay hwd hbig
  change (Code.seq (Code.region 3 #[{ dst := some 5, op := Op.assign (Operand.const (Value.int IntKind.i64 0)), type := 3, pos := "zz_law_s6553c.go:54", after := #[], guard := none }] false) (Code.seq (Code.seq (Code.region 4 #[{ dst := some 37, op := Op.move (Operand.tmp 1), type := 121, pos := "zz_law_s6553c.go:55", after := #[], guard := none }, { dst := some 38, op := Op.call { callee := Callee.builtin Builtin.len, args := #[Operand.tmp 37], argTypes := #[121] }, type := 3, pos := "zz_law_s6553c.go:55", after := #[{ on := 0, ground := Ground.data }], guard := none }, { dst := some 39, op := Op.move (Operand.const (Value.int IntKind.i64 0)), type := 3, pos := "zz_law_s6553c.go:55", after := #[], guard := none }] false) (Code.block 0 ((Code.region 5 #[{ dst := some 40, op := Op.binOp BinOp.lss 3 (Operand.tmp 39) (Operand.tmp 38) 3, type := 0, pos := "zz_law_s6553c.go:55", after := #[], guard := none }] false).seq ((Code.cond (Operand.tmp 40) Code.skip (Code.exit 0)).seq ((Code.block 1 ((Code.region 6 #[{ dst := some 41, op := Op.move (Operand.tmp 39), type := 3, pos := "zz_law_s6553c.go:55", after := #[], guard := none }, { dst := some 6, op := Op.assign (Operand.tmp 41), type := 3, pos := "zz_law_s6553c.go:55", after := #[{ on := 0, ground := Ground.data }, { on := 0, ground := Ground.phase }], guard := none }] false).seq ((Code.region 7 #[{ dst := some 42, op := Op.move (Operand.tmp 5), type := 3, pos := "zz_law_s6553c.go:56", after := #[], guard := none }, { dst := some 43, op := Op.move (Operand.tmp 1), type := 121, pos := "zz_law_s6553c.go:56", after := #[], guard := none }, { dst := some 44, op := Op.move (Operand.tmp 6), type := 3, pos := "zz_law_s6553c.go:56", after := #[], guard := none }, { dst := some 45, op := Op.indexAddr 121 (Operand.tmp 43) (Operand.tmp 44), type := 0, pos := "zz_law_s6553c.go:56", after := #[{ on := 1, ground := Ground.data }, { on := 2, ground := Ground.data }], guard := none }, { dst := some 46, op := Op.fieldAddr 123 (Operand.tmp 45) 6, type := 0, pos := "zz_law_s6553c.go:56", after := #[{ on := 3, ground := Ground.data }], guard := none }, { dst := some 47, op := Op.load 47 (Operand.tmp 46), type := 47, pos := "zz_law_s6553c.go:56", after := #[{ on := 4, ground := Ground.data }], guard := none }, { dst := some 48, op := Op.call { callee := Callee.builtin Builtin.len, args := #[Operand.tmp 47], argTypes := #[47] }, type := 3, pos := "zz_law_s6553c.go:56", after := #[{ on := 5, ground := Ground.data }], guard := none }, { dst := some 49, op := Op.binOp BinOp.add 3 (Operand.tmp 42) (Operand.tmp 48) 3, type := 3, pos := "zz_law_s6553c.go:56", after := #[{ on := 0, ground := Ground.data }, { on := 6, ground := Ground.data }], guard := none }, { dst := some 5, op := Op.assign (Operand.tmp 49), type := 3, pos := "zz_law_s6553c.go:56", after := #[{ on := 7, ground := Ground.data }, { on := 0, ground := Ground.phase }, { on := 1, ground := Ground.phase }, { on := 2, ground := Ground.phase }, { on := 3, ground := Ground.phase }, { on := 4, ground := Ground.phase }, { on := 5, ground := Ground.phase }, { on := 6, ground := Ground.phase }, { on := 7, ground := Ground.phase }], guard := none }] false).seq ((Code.region 8 #[{ dst := some 50, op := Op.move (Operand.tmp 5), type := 3, pos := "zz_law_s6553c.go:57", after := #[], guard := none }, { dst := some 51, op := Op.binOp BinOp.gtr 3 (Operand.tmp 50) (Operand.const (Value.int IntKind.i64 1048576)) 3, type := 4, pos := "zz_law_s6553c.go:57", after := #[{ on := 0, ground := Ground.data }], guard := none }] false).seq (Code.cond (Operand.tmp 51) ((Code.region 9 #[{ dst := some 4, op := Op.assign (Operand.const (Value.bool true)), type := 4, pos := "zz_law_s6553c.go:58", after := #[], guard := none }] false).seq Code.ret) Code.skip))))).seq (Code.region 10 #[{ dst := some 52, op := Op.binOp BinOp.add 3 (Operand.tmp 39) (Operand.const (Value.int IntKind.i64 1)) 3, type := 3, pos := "zz_law_s6553c.go:55", after := #[], guard := none }, { dst := some 39, op := Op.move (Operand.tmp 52), type := 3, pos := "zz_law_s6553c.go:55", after := #[{ on := 0, ground := Ground.data }], guard := none }] false)))).loop)) (tailD 4))).wp _ _ _ _
  go_wp2
  go_loopw [5, 39] (fun u v wr => ∃ (k tot : Nat), k ≤ p.n ∧ tot ≤ 1048576 ∧ u = .int .i64 (tot : Int) ∧ v = .int .i64 (k : Int) ∧ wr = p.w0 ∧ Hid (∀ m, m < k → (p.st m).vs.length ≤ 1048576)) (fun _ v _ => p.n - (intOf v).toNat)
  case atStart => exact ⟨0, 0, by omega, by omega, by rfl, by rfl, by first | rfl | trivial, fun m hm => absurd hm (Nat.not_lt_zero _)⟩
  case round =>
    obtain ⟨i, tot, hi, htot, rfl, rfl, rfl, HT⟩ := hrel
    by_cases hin : i < p.n
    case neg =>
      obtain rfl : i = p.n := by omega
      go_wp2
      have ht := tailD4 p HO.out HL.out (fun m hm => Nat.le_trans (HT.out m hm) (by omega)) width HWD.out
      rw [← HSA.out] at ht
      exact ht _ _ _ _ _ _ _ _ _ _ _ _ _ _ _ _ _ _ _ _ _ _ _ _ _ _ _ _ _ _ _ _ _ _ _ _ _ _ _ _ _ _ _ _ _ _ _ _ _ _ _ _ _ _ _ _ _ _ _ _ _ _ _ _ _ _ _ _ _ _ _ _ _ _ _ _ _ _ _ _ _ _ _ _ _ _ _ _ _ _ _ _ _ _ _ _ _ _ _ _ _ _ _ _ _ _ _ _ _ _ _ _ _ _ _ _ _ _ _ _ _ _ _ _ _ _ _ _ _ _ _ _ _ _ _ _ _ _ _ _ _ _ _ _ _ _ _ _ _ _ _ _ _ _ _ _ _ _ _ _ _ _ _ _ _ _ _ _ _ _ _ _ _ _ _ _ _ _ _ _ _ _ _ _ _ _ _ _ _ _ _ _ _ _ _ _ _ _ _ _ _ _ _ _ _ _ _ _ _ _ _ _ _ _ _ _ _ _ _ _ _ _ _ _ _ _ _ _ _ _ _ _ _ _ _ _ _ _ _ _ _ _ _ _ _ _ _ _ _ _ _ _ _ _ _ _ _ _ _ _ _ _ _ _ _ _ _ _ _ _ _ _ _ _ _ _ _ _ _ _ _ _ _ _ _ _ _ _ _ _ _ _ _ _ _ _ _ _ _ _ _ _ _ _ _ _ _ _ _ _ _ _ _ _ _ _ _ _ _ _ _ _ _ _ _ _ _ _ _ _ _ _ _ _ _ _ _ _ _ _ _ _ _ _ _ _ _ _ _ _ _ _ _ _ _ _ _ _ _ _ _ _ _ _ _ _ _ _ _ _ _ _ _ _ _ _ _ _ _ _ _ _ _ _ _ _ _ _ _ _ _ _ _ _ _ _ _ _ _ _ _ _ _ _ _ _ _ _ _ _ _ _ _ _ _ _ _ _ _ _ _ _ _ _ _ _ _ _ _ _ _ _ _ _ _ _ _ _ _ _ _ _ _ _ _ _ _ _ _ _ _ _ _ _ _ _ _ _ _ _ _ _ _ _ _ _ _ _ _ _ _ _ _ _ _ _ _ _ _ _ _ _ _ _ _ _ _ _ _ _ _ _ _ _ _ _ _ _ _ _ _ _ _ _ _ _ _ _ _ _ _ _ _ _ _
    case pos =>
      have jj : (i : Int) < (p.n : Int) := by omega
      have jz : (0 : Int) ≤ (i : Int) := by omega
      have HW := hid (wrap_up i (by omega))
      have sm := HO.out.each i hin
      have hb1 := HBG.out i hin
      rcases HO.out.at' with e | ⟨sb, so, hsa, _, hst⟩
      · omega
      rw [← HSA.out] at hsa
      subst hsa
      have hnd := (stpAt sm.lk sm.lf (hst i hin)).nodes
      clear sm hst
      have HV := hid (Eq.refl (p.st i).vs.length)
      generalize hvl : (p.st i).vs.length = vl at *
      have HVL := hid hvl
      clear hvl HV
      have HW2 := hid (show IntKind.i64.wrap ((tot : Int) + (vl : Int)) = ((tot + vl : Nat) : Int) by rw [IntKind.wrap_i64]; omega)
      obtain ⟨t2, ht2⟩ : ∃ t2, t2 = tot + vl := ⟨_, rfl⟩
      rw [← ht2] at HW2
      by_cases hov : 1048576 < t2
      case pos =>
        have j5 : (1048576 : Int) < (t2 : Int) := by omega
        have hw2 := HW2.out
        clear ht2 hb1
        go_wp2
        exact bodyPost_ret (results_tmp rfl _ _ _) rfl ⟨rfl, Below.refl _ _⟩
      case neg =>
        have j5 : (t2 : Int) ≤ 1048576 := by omega
        have HT' : Hid (∀ m, m < i + 1 → (p.st m).vs.length ≤ 1048576) := hid (fun m hm => by
          by_cases e : m = i
          · subst e
            rw [HVL.out]
            omega
          · exact HT.out m (by omega))
        have hw2 := HW2.out
        have hw1 := HW.out
        clear ht2 hb1
        go_wp2
        clear hw1 hw2
        go_roundw
        case rel => exact ⟨i + 1, t2, by omega, by omega, by rfl, by go_num, by first | rfl | trivial, HT'⟩
        case measure => simp [intOf]; omega

/-- What is known of the arguments. -/
structure Args5 (W : World) (sa : Option Addr) (ss : List Stp) : Prop where
  each : ∀ (m : Nat) (s : Stp), ss[m]? = some s → StpOk W s ∧ s.vs.length ≤ 1000000000000000
  at' : ss.length = 0 ∨ ∃ sb so, sa = some ⟨sb, so, none⟩ ∧ sb < W.heap.size ∧ ∀ (m : Nat) (s : Stp), ss[m]? = some s → W.rangeAt sb (so + m * 45) s.cells

set_option maxHeartbeats 4000000 in
set_option maxRecDepth 20000 in
theorem lawC_any (W : World) (width : Int) (sa : Option Addr) (sc : Nat) (ss : List Stp) (h0 : 0 ≤ width) (A : Args5 W sa ss) : Calls Yba.prog 5 #[.int .u8 width, .slice sa ss.length sc] W fun e w' => e = .returned (.bool true) ∧ Below W.heap.size W w' := by
  go_enter Yba.func5, Yba.ntmps5
  by_cases hn : ss.length ≤ 4096
  case pos =>
    obtain ⟨p, hp⟩ : ∃ p : P5, p = ⟨W, sa, sc, ss, (width.tmod 9).toNat, W.heap.size, W.heap.size + 1, W.heap.size + 2, W.heap.size + 3, W.heap.size + 4⟩ := ⟨_, rfl⟩
    have hw : width.tmod 9 = ((width.tmod 9).toNat : Int) := by have := Int.tmod_nonneg 9 h0; omega
    have hw8 : (width.tmod 9).toNat ≤ 8 := by have := Int.tmod_lt_of_pos width (b := 9) (by decide); omega
    have hst : ∀ m, m < p.n → p.ss[m]? = some (p.st m) := fun m hm => by
      unfold P5.st
      rw [List.getD_eq_getElem?_getD, List.getElem?_eq_getElem hm]
      rfl
    have ok : Ok5 p := by
      subst hp
      refine ⟨hn, hw8, fun m hm => (A.each m _ (hst m hm)).1, ?_, Nat.le_refl _, Nat.lt_succ_self _, Nat.lt_succ_self _, Nat.lt_succ_self _, Nat.lt_succ_self _⟩
      rcases A.at' with e | ⟨sb, so, e, hb, hr⟩
      · exact .inl e
      · exact .inr ⟨sb, so, e, hb, fun m hm => hr m _ (hst m hm)⟩
    have lay : Laid5 p := by subst hp; exact ⟨rfl, rfl, rfl, rfl, rfl⟩
    have hbig : ∀ m, m < p.n → (p.st m).vs.length ≤ 1000000000000000 := fun m hm => by
      have := hst m hm
      subst hp
      exact (A.each m _ this).2
    have hwd : width.tmod 9 = (p.wid : Int) := by subst hp; exact hw
    have j1 : (ss.length : Int) ≤ 4096 := by omega
    have HT := hid (tailD2 p ok lay hbig width hwd)
    have e1 : p.w0 = W := by rw [hp]
    have e2 : p.sa = sa := by rw [hp]
    have e3 : p.n = ss.length := by rw [hp]; rfl
    have e4 : p.sc = sc := by rw [hp]
    rw [e1, e2, e3, e4] at HT
    clear hp hst ok lay hbig hwd hw hw8 A e1 e2 e3 e4
    change (Code.seq (Code.region 0 #[{ dst := some 4, op := Op.assign (Operand.const (Value.bool false)), type := 4, pos := "zz_law_s6553c.go:49", after := #[], guard := none }] false) (Code.seq (Code.seq (Code.region 1 #[{ dst := some 34, op := Op.move (Operand.tmp 1), type := 121, pos := "zz_law_s6553c.go:51", after := #[], guard := none }, { dst := some 35, op := Op.call { callee := Callee.builtin Builtin.len, args := #[Operand.tmp 34], argTypes := #[121] }, type := 3, pos := "zz_law_s6553c.go:51", after := #[{ on := 0, ground := Ground.data }], guard := none }, { dst := some 36, op := Op.binOp BinOp.gtr 3 (Operand.tmp 35) (Operand.const (Value.int IntKind.i64 4096)) 3, type := 4, pos := "zz_law_s6553c.go:51", after := #[{ on := 1, ground := Ground.data }], guard := none }] false) (Code.cond (Operand.tmp 36) ((Code.region 2 #[{ dst := some 4, op := Op.assign (Operand.const (Value.bool true)), type := 4, pos := "zz_law_s6553c.go:52", after := #[], guard := none }] false).seq Code.ret) Code.skip)) (tailD 2))).wp _ _ _ _
    go_wp2
    exact HT.out _ _ _ _ _ _ _ _ _ _ _ _ _ _ _ _ _ _ _ _ _ _ _ _ _ _ _ _ _ _ _ _ _ _ _ _ _ _ _ _ _ _ _ _ _ _ _ _ _ _ _ _ _ _ _ _ _ _ _ _ _ _ _ _ _ _ _ _ _ _ _ _ _ _ _ _ _ _ _ _ _ _ _ _ _ _ _ _ _ _ _ _ _ _ _ _ _ _ _ _ _ _ _ _ _ _ _ _ _ _ _ _ _ _ _ _ _ _ _ _ _ _ _ _ _ _ _ _ _ _ _ _ _ _ _ _ _ _ _ _ _ _ _ _ _ _ _ _ _ _ _ _ _ _ _ _ _ _ _ _ _ _ _ _ _ _ _ _ _ _ _ _ _ _ _ _ _ _ _ _ _ _ _ _ _ _ _ _ _ _ _ _ _ _ _ _ _ _ _ _ _ _ _ _ _ _ _ _ _ _ _ _ _ _ _ _ _ _ _ _ _ _ _ _ _ _ _ _ _ _ _ _ _ _ _ _ _ _ _ _ _ _ _ _ _ _ _ _ _ _ _ _ _ _ _ _ _ _ _ _ _ _ _ _ _ _ _ _ _ _ _ _ _ _ _ _ _ _ _ _ _ _ _ _ _ _ _ _ _ _ _ _ _ _ _ _ _ _ _ _ _ _ _ _ _ _ _ _ _ _ _ _ _ _ _ _ _ _ _ _ _ _ _ _ _ _ _ _ _ _ _ _ _ _ _ _ _ _ _ _ _ _ _ _ _ _ _ _ _ _ _ _ _ _ _ _ _ _ _ _ _ _ _ _ _ _ _ _ _ _ _ _ _ _ _ _ _ _ _ _ _ _ _ _ _ _ _ _ _ _ _ _ _ _ _ _ _ _ _ _ _ _ _ _ _ _ _ _ _ _ _ _ _ _ _ _ _ _ _ _ _ _ _ _ _ _ _ _ _ _ _ _ _ _ _ _ _ _ _ _ _ _ _ _ _ _ _ _ _ _ _ _ _ _ _ _ _ _ _ _ _ _ _ _ _ _ _ _ _ _ _ _ _ _ _ _ _ _ _ _ _ _ _ _ _ _ _ _ _ _ _ _ _ _ _ _ _ _ _ _ _ _ _ _ _ _ _ _ _ _ _ _ _ _ _
  case neg =>
    have j1 : (4096 : Int) < (ss.length : Int) := by omega
    clear A
    change (Code.seq (Code.region 0 #[{ dst := some 4, op := Op.assign (Operand.const (Value.bool false)), type := 4, pos := "zz_law_s6553c.go:49", after := #[], guard := none }] false) (Code.seq (Code.seq (Code.region 1 #[{ dst := some 34, op := Op.move (Operand.tmp 1), type := 121, pos := "zz_law_s6553c.go:51", after := #[], guard := none }, { dst := some 35, op := Op.call { callee := Callee.builtin Builtin.len, args := #[Operand.tmp 34], argTypes := #[121] }, type := 3, pos := "zz_law_s6553c.go:51", after := #[{ on := 0, ground := Ground.data }], guard := none }, { dst := some 36, op := Op.binOp BinOp.gtr 3 (Operand.tmp 35) (Operand.const (Value.int IntKind.i64 4096)) 3, type := 4, pos := "zz_law_s6553c.go:51", after := #[{ on := 1, ground := Ground.data }], guard := none }] false) (Code.cond (Operand.tmp 36) ((Code.region 2 #[{ dst := some 4, op := Op.assign (Operand.const (Value.bool true)), type := 4, pos := "zz_law_s6553c.go:52", after := #[], guard := none }] false).seq Code.ret) Code.skip)) (tailD 2))).wp _ _ _ _
    go_wp2
    exact bodyPost_ret (results_tmp rfl _ _ _) rfl ⟨rfl, Below.refl _ _⟩

end Go.Proofs.Ybulkeero
