/- The law 6553A, the ids that should have been told (regions 26 to 34). -/
import Derived.Test.YbulkeeroSeg35
namespace Go.Proofs.Ybulkeero
open Go.RowKit Go.Joins

/-- What the loop over the spares has gathered. -/
structure Gathered (p : LP) (w wr : World) (k : Nat) (a : Option Addr) (c : Nat) : Prop where
  below : Below w.heap.size w wr
  own : wr.ownsRow w.heap.size 27 20 (.slice a (told p.flat p.me p.reps k).length c) (told p.flat p.me p.reps k).length (by8 (told p.flat p.me p.reps k).flatten)
  size : w.heap.size ≤ wr.heap.size
theorem told_same {flat me : List Int} {reps k : Nat} (h : idAt flat (reps + k) = me) : told flat me reps (k + 1) = told flat me reps k := by simp [told, h]
theorem told_more {flat me : List Int} {reps k : Nat} (h : idAt flat (reps + k) ≠ me) : told flat me reps (k + 1) = told flat me reps k ++ [idAt flat (reps + k)] := by simp [told, h]
theorem own_below {w w' : World} {base size n : Nat} {e : TypeId} {v : Value} {xs : List Value} (h : w.ownsRow base e size v n xs) (hB : Below w.heap.size w w') : w'.ownsRow base e size v n xs := own_kept h (grown_of_below hB)

theorem gathered_next {p : LP} {w w1 w2 : World} {k c c' : Nat} {a a' : Option Addr} {o : Obj} {id : List Int} (h : Gathered p w w1 k a c) (ht : told p.flat p.me p.reps (k + 1) = told p.flat p.me p.reps k ++ [id])
    (hown : w2.ownsRow w.heap.size 27 20 (.slice a' ((told p.flat p.me p.reps k).length + 1) c') ((told p.flat p.me p.reps k).length + 1) (by8 (told p.flat p.me p.reps k).flatten ++ by8 id)) (hg : (w1.alloc o).grownBy w2 (Value.slice a (told p.flat p.me p.reps k).length c).ownBlock) : Gathered p w w2 (k + 1) a' c' := by
  have hs : w.heap.size ≤ (w1.alloc o).heap.size := by have := h.size; simp; omega
  refine ⟨(h.below.alloc h.size o).grown hg hs (fun j hj => (h.own.lt j hj).1), ?_, Nat.le_trans hs hg.size⟩
  rw [ht]
  simpa [by8] using hown

set_option maxHeartbeats 4000000 in
set_option maxRecDepth 20000 in
theorem tail22 (p : LP) (hf : LFit p) (Wt w : World) (s : Nat → Row) (ps : List (Option Addr × Nat)) (h : LawAt p Wt w s ps) (aw : Option Addr) (cw b : Nat) (hw : w.ownsRow b 5 1 (.slice aw p.r.later.length cw) p.r.later.length (by8 p.r.later)) (x : Int) (hx : x = (p.n : Int)) (u0 u4 u6 u7 u8 u9 u11 u12 u13 u15 u16 u17 u18 u19 u20 u24 u27 u31 u32 u33 u34 u35 u36 u37 u38 u39 u40 u41 u42 u43 u44 u45 u46 u47 u48 u49 u50 u51 u52 u53 u54 u55 u56 u57 u58 u59 u60 u61 u62 u63 u64 u65 u66 u67 u68 u69 u70 u71 u72 u73 u74 u75 u76 u77 u78 u79 u80 u81 u82 u83 u84 u85 u86 u87 u88 u89 u90 u91 u92 u93 u94 u95 u96 u97 u98 u99 u100 u101 u102 u103 u104 u105 u106 u107 u108 u109 u110 u111 u112 u113 u114 u115 u116 u117 u118 u119 u120 u121 u122 u123 u124 u125 u126 u127 u128 u129 u130 u131 u132 u133 u134 u135 u136 u137 u138 u139 u140 u141 u142 u143 u144 u145 u146 u147 u148 u149 u150 u151 u152 u153 u154 u155 u156 u157 u158 u159 u160 u161 u162 u163 u164 u165 u166 u167 u168 u169 u170 u171 u172 u173 u174 u175 u176 u177 u178 u179 u180 u181 u182 u183 u184 u185 u186 u187 u188 u189 u190 u191 u192 u193 u194 u195 u196 u197 u198 u199 u200 u201 u202 u203 u204 u205 u206 u207 u208 u209 u210 u211 u212 u213 u214 u215 u216 u217 u218 u219 u220 u221 u222 u223 u224 u225 u226 u227 u228 u229 u230 u231 u232 u233 u234 u235 u236 u237 u238 u239 u240 u241 u242 u243 u244 u245 u246 u247 u248 u249 u250 u251 u252 u253 u254 u255 u256 u257 u258 u259 u260 u261 u262 u263 u264 u265 u266 u267 u268 u269 u270 u271 u272 u273 u274 u275 u276 u277 u278 u279 u280 u281 u282 u283 u284 u285 u286 u287 u288 u289 u290 u291 u292 u293 u294 u295 u296 u297 u298 u299 u300 u301 u302 u303 u304 u305 u306 u307 u308 u309 u310 u311 u312 u313 u314 u315 u316 u317 u318 u319 u320 u321 u322 u323 : Value) :
    (tailC 22).wp Yba.prog (LawQ p.w0) ⟨#[u0, .int .u32 p.r.kind, .int .u32 p.r.id, .int .u32 p.r.seq, u4, .slice p.va p.r.value.length p.vc, u6, u7, u8, u9, .pointer (some ⟨p.kb, 0, none⟩), u11, u12, u13, .pointer (some ⟨p.gb, 0, none⟩), u15, u16, u17, u18, u19, u20, .int .i64 (p.reps : Int), .pointer (some ⟨p.mb, 0, none⟩), .slice (some ⟨p.lb, 0, none⟩) p.m p.m, u24, .pointer (some ⟨p.rb, 0, none⟩), .pointer (some ⟨p.sb, 0, none⟩), u27, .pointer (some ⟨p.hb, 0, none⟩), .slice aw p.r.later.length cw, .int .i64 x, u31, u32, u33, u34, u35, u36, u37, u38, u39, u40, u41, u42, u43, u44, u45, u46, u47, u48, u49, u50, u51, u52, u53, u54, u55, u56, u57, u58, u59, u60, u61, u62, u63, u64, u65, u66, u67, u68, u69, u70, u71, u72, u73, u74, u75, u76, u77, u78, u79, u80, u81, u82, u83, u84, u85, u86, u87, u88, u89, u90, u91, u92, u93, u94, u95, u96, u97, u98, u99, u100, u101, u102, u103, u104, u105, u106, u107, u108, u109, u110, u111, u112, u113, u114, u115, u116, u117, u118, u119, u120, u121, u122, u123, u124, u125, u126, u127, u128, u129, u130, u131, u132, u133, u134, u135, u136, u137, u138, u139, u140, u141, u142, u143, u144, u145, u146, u147, u148, u149, u150, u151, u152, u153, u154, u155, u156, u157, u158, u159, u160, u161, u162, u163, u164, u165, u166, u167, u168, u169, u170, u171, u172, u173, u174, u175, u176, u177, u178, u179, u180, u181, u182, u183, u184, u185, u186, u187, u188, u189, u190, u191, u192, u193, u194, u195, u196, u197, u198, u199, u200, u201, u202, u203, u204, u205, u206, u207, u208, u209, u210, u211, u212, u213, u214, u215, u216, u217, u218, u219, u220, u221, u222, u223, u224, u225, u226, u227, u228, u229, u230, u231, u232, u233, u234, u235, u236, u237, u238, u239, u240, u241, u242, u243, u244, u245, u246, u247, u248, u249, u250, u251, u252, u253, u254, u255, u256, u257, u258, u259, u260, u261, u262, u263, u264, u265, u266, u267, u268, u269, u270, u271, u272, u273, u274, u275, u276, u277, u278, u279, u280, u281, u282, u283, u284, u285, u286, u287, u288, u289, u290, u291, u292, u293, u294, u295, u296, u297, u298, u299, u300, u301, u302, u303, u304, u305, u306, u307, u308, u309, u310, u311, u312, u313, u314, u315, u316, u317, u318, u319, u320, u321, u322, u323], []⟩ w := by
  subst hx
  have HL := hid h
  have HF := hid hf
  have HW := hid hw
  have hnm : p.n ≤ p.m := Nat.min_le_right _ _
  have hn2 : p.n ≤ p.reps + 2 := Nat.min_le_left _ _
  have hr9 := hf.reps
  clear h hf hw
  generalize hnn : p.n = nn at *
  have HN := hid hnn
  clear hnn
  have j2 : (nn : Int) ≤ (p.m : Int) := by omega
  change (Code.seq (Code.region 29 #[{ dst := some 31, op := Op.assign (Operand.const (Value.slice none 0 0)), type := 28, pos := "zz_law_s6553a.go:104", after := #[], guard := none }] false) (Code.seq (Code.seq (Code.region 30 #[{ dst := some 135, op := Op.move (Operand.tmp 21), type := 3, pos := "zz_law_s6553a.go:105", after := #[], guard := none }, { dst := some 32, op := Op.assign (Operand.tmp 135), type := 3, pos := "zz_law_s6553a.go:105", after := #[{ on := 0, ground := Ground.data }, { on := 0, ground := Ground.phase }], guard := none }] false) (Code.block 2 (((Code.region 31 #[{ dst := some 136, op := Op.move (Operand.tmp 32), type := 3, pos := "zz_law_s6553a.go:105", after := #[], guard := none }, { dst := some 137, op := Op.move (Operand.tmp 30), type := 3, pos := "zz_law_s6553a.go:105", after := #[], guard := none }, { dst := some 138, op := Op.binOp BinOp.lss 3 (Operand.tmp 136) (Operand.tmp 137) 3, type := 4, pos := "zz_law_s6553a.go:105", after := #[{ on := 0, ground := Ground.data }, { on := 1, ground := Ground.data }], guard := none }] false).seq (Code.cond (Operand.tmp 138) Code.skip (Code.exit 2))).seq ((Code.block 3 ((Code.region 33 #[{ dst := some 141, op := Op.move (Operand.tmp 23), type := 28, pos := "zz_law_s6553a.go:106", after := #[], guard := none }, { dst := some 142, op := Op.move (Operand.tmp 32), type := 3, pos := "zz_law_s6553a.go:106", after := #[], guard := none }, { dst := some 143, op := Op.indexAddr 28 (Operand.tmp 141) (Operand.tmp 142), type := 0, pos := "zz_law_s6553a.go:106", after := #[{ on := 0, ground := Ground.data }, { on := 1, ground := Ground.data }], guard := none }, { dst := some 144, op := Op.load 27 (Operand.tmp 143), type := 27, pos := "zz_law_s6553a.go:106", after := #[{ on := 2, ground := Ground.data }], guard := none }, { dst := some 145, op := Op.load 27 (Operand.tmp 22), type := 27, pos := "zz_law_s6553a.go:106", after := #[], guard := none }, { dst := some 146, op := Op.binOp BinOp.neq 27 (Operand.tmp 144) (Operand.tmp 145) 27, type := 4, pos := "zz_law_s6553a.go:106", after := #[{ on := 3, ground := Ground.data }, { on := 4, ground := Ground.data }], guard := none }] true).seq (Code.cond (Operand.tmp 146) (Code.region 34 #[{ dst := some 147, op := Op.move (Operand.tmp 31), type := 28, pos := "zz_law_s6553a.go:107", after := #[], guard := none }, { dst := some 148, op := Op.move (Operand.tmp 23), type := 28, pos := "zz_law_s6553a.go:107", after := #[], guard := none }, { dst := some 149, op := Op.move (Operand.tmp 32), type := 3, pos := "zz_law_s6553a.go:107", after := #[], guard := none }, { dst := some 150, op := Op.indexAddr 28 (Operand.tmp 148) (Operand.tmp 149), type := 0, pos := "zz_law_s6553a.go:107", after := #[{ on := 1, ground := Ground.data }, { on := 2, ground := Ground.data }], guard := none }, { dst := some 151, op := Op.load 27 (Operand.tmp 150), type := 27, pos := "zz_law_s6553a.go:107", after := #[{ on := 3, ground := Ground.data }], guard := none }, { dst := some 152, op := Op.buildSlice 28 1 #[(0, Operand.tmp 151)], type := 28, pos := "zz_law_s6553a.go:107", after := #[{ on := 4, ground := Ground.data }], guard := none }, { dst := some 153, op := Op.call { callee := Callee.builtin Builtin.append, args := #[Operand.tmp 147, Operand.tmp 152], argTypes := #[28, 28] }, type := 28, pos := "zz_law_s6553a.go:107", after := #[{ on := 0, ground := Ground.data }, { on := 5, ground := Ground.data }], guard := none }, { dst := some 31, op := Op.assign (Operand.tmp 153), type := 28, pos := "zz_law_s6553a.go:107", after := #[{ on := 6, ground := Ground.data }, { on := 6, ground := Ground.chain }, { on := 0, ground := Ground.phase }, { on := 1, ground := Ground.phase }, { on := 2, ground := Ground.phase }, { on := 3, ground := Ground.phase }, { on := 4, ground := Ground.phase }, { on := 5, ground := Ground.phase }, { on := 6, ground := Ground.phase }], guard := none }] false) Code.skip))).seq (Code.region 32 #[{ dst := some 139, op := Op.move (Operand.tmp 32), type := 3, pos := "zz_law_s6553a.go:105", after := #[], guard := none }, { dst := some 140, op := Op.binOp BinOp.add 3 (Operand.tmp 139) (Operand.const (Value.int IntKind.i64 1)) 3, type := 3, pos := "zz_law_s6553a.go:105", after := #[{ on := 0, ground := Ground.data }], guard := none }, { dst := some 32, op := Op.assign (Operand.tmp 140), type := 3, pos := "zz_law_s6553a.go:105", after := #[{ on := 1, ground := Ground.data }, { on := 0, ground := Ground.phase }, { on := 1, ground := Ground.phase }], guard := none }] false))).loop)) (tailC 24))).wp _ _ _ _
  go_wp2
  go_loopw [31, 32] (fun v i wr => ∃ (k j : Nat) (a : Option Addr) (c : Nat), k ≤ nn - p.reps ∧ v = .slice a (told p.flat p.me p.reps k).length c ∧ i = .int .i64 (j : Int) ∧ Hid (j = p.reps + k) ∧ Hid (Gathered p w wr k a c)) (fun _ i _ => nn - (intOf i).toNat)
  case atStart => exact ⟨0, p.reps, none, 0, Nat.zero_le _, by rfl, by rfl, by rfl, ⟨Below.refl _ _, World.ownsRow_nil _ _ _ _, Nat.le_refl _⟩⟩
  case round =>
    obtain ⟨k, j, a, c, hk, rfl, rfl, HJ, HG⟩ := hrel
    by_cases hkn : j < nn
    case neg =>
      obtain rfl : k = nn - p.reps := by have := HJ.out; omega
      have j1 : (nn : Int) ≤ (j : Int) := by omega
      go_wp2
      exact tail24 p HF.out Wt wr s ps (HL.out.later HG.out.below) aw cw b (own_below HW.out HG.out.below) a _ c w.heap.size (by rw [HN.out]) (by rw [HN.out]; exact HG.out.own) _ _ _ _ _ _ _ _ _ _ _ _ _ _ _ _ _ _ _ _ _ _ _ _ _ _ _ _ _ _ _ _ _ _ _ _ _ _ _ _ _ _ _ _ _ _ _ _ _ _ _ _ _ _ _ _ _ _ _ _ _ _ _ _ _ _ _ _ _ _ _ _ _ _ _ _ _ _ _ _ _ _ _ _ _ _ _ _ _ _ _ _ _ _ _ _ _ _ _ _ _ _ _ _ _ _ _ _ _ _ _ _ _ _ _ _ _ _ _ _ _ _ _ _ _ _ _ _ _ _ _ _ _ _ _ _ _ _ _ _ _ _ _ _ _ _ _ _ _ _ _ _ _ _ _ _ _ _ _ _ _ _ _ _ _ _ _ _ _ _ _ _ _ _ _ _ _ _ _ _ _ _ _ _ _ _ _ _ _ _ _ _ _ _ _ _ _ _ _ _ _ _ _ _ _ _ _ _ _ _ _ _ _ _ _ _ _ _ _ _ _ _ _ _ _ _ _ _ _ _ _ _ _ _ _ _ _ _ _ _ _ _ _ _ _ _ _ _ _ _ _ _ _ _ _ _ _ _ _ _ _ _ _ _ _ _ _ _ _ _ _ _ _ _ _ _ _ _ _ _ _ _ _ _ _ _ _ _ _ _ _ _ _ _ _ _ _ _ _ _ _ _ _ _ _ _ _ _ _ _ _
    case pos =>
      have j0 : (0 : Int) ≤ (j : Int) := by omega
      have j1 : (j : Int) < (nn : Int) := by omega
      have j3 : (j : Int) < (p.m : Int) := by omega
      have HW2 := hid (wrap_succ j (by omega))
      have hidl : (idAt p.flat j).length = 20 := idAt_length HF.out.flat (by omega)
      have hidr := range_idAt (j := j) (HL.out.later HG.out.below).list
      have hmr := (HL.out.later HG.out.below).mine
      go_upto_region 33 with fail
      rename_i K9 hK9 K6 hK6
      refine beginE [] (fun w' : World => w'.rangeAt p.lb (j * 20) (by8 (idAt p.flat j)) ∧ w'.rangeAt p.mb 0 (by8 p.me)) (by kernel_rfl) ⟨(World.rangeAt_drew _ _ _ _).2 hidr, (World.rangeAt_drew _ _ _ _).2 hmr⟩ (fun hHeld => ?_)
      refine takeE 0 { dst := some 141, op := Op.move (Operand.tmp 23), type := 28, pos := "zz_law_s6553a.go:106", after := #[], guard := none } (.slice (some ⟨p.lb, 0, none⟩) p.m p.m) rfl (by kernel_rfl) (by kernel_rfl) (by kernel_rfl) (by kernel_rfl) (fun _ _ _ h => h) (Or.inl ⟨by rfl, by intro w hSw; clear hSw; go_simp⟩) hHeld ?_
      simp only [Act.put, List.setIfInBounds_toArray, List.set_cons_zero, List.set_cons_succ]
      refine takeE 1 { dst := some 142, op := Op.move (Operand.tmp 32), type := 3, pos := "zz_law_s6553a.go:106", after := #[], guard := none } (.int .i64 (j : Int)) rfl (by kernel_rfl) (by kernel_rfl) (by kernel_rfl) (by kernel_rfl) (fun _ _ _ h => h) (Or.inl ⟨by rfl, by intro w hSw; clear hSw; go_simp⟩) hHeld ?_
      simp only [Act.put, List.setIfInBounds_toArray, List.set_cons_zero, List.set_cons_succ]
      refine takeE 2 { dst := some 143, op := Op.indexAddr 28 (Operand.tmp 141) (Operand.tmp 142), type := 0, pos := "zz_law_s6553a.go:106", after := #[{ on := 0, ground := Ground.data }, { on := 1, ground := Ground.data }], guard := none } (.pointer (some ⟨p.lb, j * 20, none⟩)) rfl (by kernel_rfl) (by kernel_rfl) (by kernel_rfl) (by kernel_rfl) (fun _ _ _ h => h) (Or.inl ⟨by rfl, by intro w hSw; clear hSw; go_simp⟩) hHeld ?_
      simp only [Act.put, List.setIfInBounds_toArray, List.set_cons_zero, List.set_cons_succ]
      refine takeE 3 { dst := some 144, op := Op.load 27 (Operand.tmp 143), type := 27, pos := "zz_law_s6553a.go:106", after := #[{ on := 2, ground := Ground.data }], guard := none } (.agg (by8 (idAt p.flat j)).toArray) rfl (by kernel_rfl) (by kernel_rfl) (by kernel_rfl) (by kernel_rfl) (fun _ _ _ h => h) (Or.inl ⟨by rfl, fun w hSw => load27 rfl rfl hidl hSw.1⟩) hHeld ?_
      simp only [Act.put, List.setIfInBounds_toArray, List.set_cons_zero, List.set_cons_succ]
      refine takeE 4 { dst := some 145, op := Op.load 27 (Operand.tmp 22), type := 27, pos := "zz_law_s6553a.go:106", after := #[], guard := none } (.agg (by8 p.me).toArray) rfl (by kernel_rfl) (by kernel_rfl) (by kernel_rfl) (by kernel_rfl) (fun _ _ _ h => h) (Or.inl ⟨by rfl, fun w hSw => load27 rfl rfl HF.out.me hSw.2⟩) hHeld ?_
      simp only [Act.put, List.setIfInBounds_toArray, List.set_cons_zero, List.set_cons_succ]
      refine takeE 5 { dst := some 146, op := Op.binOp BinOp.neq 27 (Operand.tmp 144) (Operand.tmp 145) 27, type := 4, pos := "zz_law_s6553a.go:106", after := #[{ on := 3, ground := Ground.data }, { on := 4, ground := Ground.data }], guard := none } (.bool (!decide (idAt p.flat j = p.me))) rfl (by kernel_rfl) (by kernel_rfl) (by kernel_rfl) (by kernel_rfl) (fun _ _ _ h => h) (Or.inl ⟨by rfl, fun w _ => exec_neq27 rfl rfl rfl hidl HF.out.me⟩) hHeld ?_
      simp only [Act.put, List.setIfInBounds_toArray, List.set_cons_zero, List.set_cons_succ]
      refine doneE (by kernel_rfl) (hK6 _ _ ?_) _
      clear hHeld hK6 K6
      have hG1 : Gathered p w wr.drew k a c := ⟨HG.out.below.drew, HG.out.own.drew, HG.out.size⟩
      have hidr1 : wr.drew.rangeAt p.lb (j * 20) (by8 (idAt p.flat j)) := (World.rangeAt_drew _ _ _ _).2 hidr
      clear hidr hmr HG
      generalize wr.drew = w1 at *
      by_cases hid' : idAt p.flat j = p.me
      case pos =>
        refine wp_cond_false (by show Value.bool (!decide (idAt p.flat j = p.me)) = Value.bool false; simp [hid']) ?_
        have ht : told p.flat p.me p.reps (k + 1) = told p.flat p.me p.reps k := told_same (by rw [← HJ.out]; exact hid')
        have HG' : Hid (Gathered p w w1 (k + 1) a c) := ⟨hG1.below, by rw [ht]; exact hG1.own, hG1.size⟩
        clear hG1 hidr1
        have hwk := HW2.out
        go_wp2
        clear hwk
        go_roundw
        case rel => exact ⟨k + 1, j + 1, _, _, by have := HJ.out; omega, by rw [ht], by go_num, hid (by have := HJ.out; omega), HG'⟩
        case measure => simp [intOf]; omega
      case neg =>
        refine wp_cond_true (by show Value.bool (!decide (idAt p.flat j = p.me)) = Value.bool true; simp [hid']) ?_
        refine wp_region_list ?_
        refine wpList_value (v := .slice a (told p.flat p.me p.reps k).length c) (w' := w1) rfl (by go_simp) ?_
        simp only [Act.put, List.setIfInBounds_toArray, List.set_cons_zero, List.set_cons_succ]
        refine wpList_value (v := .slice (some ⟨p.lb, 0, none⟩) p.m p.m) (w' := w1) rfl (by go_simp) ?_
        simp only [Act.put, List.setIfInBounds_toArray, List.set_cons_zero, List.set_cons_succ]
        refine wpList_value (v := .int .i64 (j : Int)) (w' := w1) rfl (by go_simp) ?_
        simp only [Act.put, List.setIfInBounds_toArray, List.set_cons_zero, List.set_cons_succ]
        refine wpList_value (v := .pointer (some ⟨p.lb, j * 20, none⟩)) (w' := w1) rfl (by go_simp) ?_
        simp only [Act.put, List.setIfInBounds_toArray, List.set_cons_zero, List.set_cons_succ]
        refine wpList_value rfl (load27 rfl rfl hidl hidr1) ?_
        simp only [Act.put, List.setIfInBounds_toArray, List.set_cons_zero, List.set_cons_succ]
        refine wpList_value rfl (buildSlice_exec rfl hidl rfl) ?_
        simp only [Act.put, List.setIfInBounds_toArray, List.set_cons_zero, List.set_cons_succ]
        have htl := told_length p.flat p.me p.reps k
        have hsz1 := hG1.size
        refine wpList_append_full rfl (.tmp 147) (.tmp 152) 28 rfl w.heap.size 27 20 20 Yba.underlying28 Yba.row27 (by decide) a _ c _ rfl (hG1.own.alloc _) (some ⟨w1.heap.size, 0, none⟩) 1 1 (by8 (idAt p.flat j)) rfl (by rw [by8_length, hidl]) (src_new w1 _ 27 _ rfl) (by8_one _) (by unfold maxLen; omega) (by omega) (by simp; omega) ?_
        intro a' c' w2 hown2 hg2 hat2
        simp only [Act.put, List.setIfInBounds_toArray, List.set_cons_zero, List.set_cons_succ]
        have ht : told p.flat p.me p.reps (k + 1) = told p.flat p.me p.reps k ++ [idAt p.flat j] := by rw [HJ.out]; exact told_more (by rw [← HJ.out]; exact hid')
        have HG' : Hid (Gathered p w w2 (k + 1) a' c') := gathered_next hG1 ht hown2 hg2
        clear hown2 hg2 hat2 hG1 hidr1
        refine wpList_value (v := .slice a' ((told p.flat p.me p.reps k).length + 1) c') (w' := w2) rfl (by go_simp) ?_
        simp only [Act.put, List.setIfInBounds_toArray, List.set_cons_zero, List.set_cons_succ]
        refine wpList_nil ?_
        have hwk := HW2.out
        go_wp2
        clear hwk
        go_roundw
        case rel => exact ⟨k + 1, j + 1, _, _, by have := HJ.out; omega, by rw [ht]; simp, by go_num, hid (by have := HJ.out; omega), HG'⟩
        case measure => simp [intOf]; omega


set_option maxHeartbeats 4000000 in
set_option maxRecDepth 20000 in
theorem tail20 (p : LP) (hf : LFit p) (Wt w : World) (s : Nat → Row) (ps : List (Option Addr × Nat)) (h : LawAt p Wt w s ps) (aw : Option Addr) (cw b : Nat) (hw : w.ownsRow b 5 1 (.slice aw p.r.later.length cw) p.r.later.length (by8 p.r.later)) (u0 u4 u6 u7 u8 u9 u11 u12 u13 u15 u16 u17 u18 u19 u20 u24 u27 u30 u31 u32 u33 u34 u35 u36 u37 u38 u39 u40 u41 u42 u43 u44 u45 u46 u47 u48 u49 u50 u51 u52 u53 u54 u55 u56 u57 u58 u59 u60 u61 u62 u63 u64 u65 u66 u67 u68 u69 u70 u71 u72 u73 u74 u75 u76 u77 u78 u79 u80 u81 u82 u83 u84 u85 u86 u87 u88 u89 u90 u91 u92 u93 u94 u95 u96 u97 u98 u99 u100 u101 u102 u103 u104 u105 u106 u107 u108 u109 u110 u111 u112 u113 u114 u115 u116 u117 u118 u119 u120 u121 u122 u123 u124 u125 u126 u127 u128 u129 u130 u131 u132 u133 u134 u135 u136 u137 u138 u139 u140 u141 u142 u143 u144 u145 u146 u147 u148 u149 u150 u151 u152 u153 u154 u155 u156 u157 u158 u159 u160 u161 u162 u163 u164 u165 u166 u167 u168 u169 u170 u171 u172 u173 u174 u175 u176 u177 u178 u179 u180 u181 u182 u183 u184 u185 u186 u187 u188 u189 u190 u191 u192 u193 u194 u195 u196 u197 u198 u199 u200 u201 u202 u203 u204 u205 u206 u207 u208 u209 u210 u211 u212 u213 u214 u215 u216 u217 u218 u219 u220 u221 u222 u223 u224 u225 u226 u227 u228 u229 u230 u231 u232 u233 u234 u235 u236 u237 u238 u239 u240 u241 u242 u243 u244 u245 u246 u247 u248 u249 u250 u251 u252 u253 u254 u255 u256 u257 u258 u259 u260 u261 u262 u263 u264 u265 u266 u267 u268 u269 u270 u271 u272 u273 u274 u275 u276 u277 u278 u279 u280 u281 u282 u283 u284 u285 u286 u287 u288 u289 u290 u291 u292 u293 u294 u295 u296 u297 u298 u299 u300 u301 u302 u303 u304 u305 u306 u307 u308 u309 u310 u311 u312 u313 u314 u315 u316 u317 u318 u319 u320 u321 u322 u323 : Value) :
    (tailC 20).wp Yba.prog (LawQ p.w0) ⟨#[u0, .int .u32 p.r.kind, .int .u32 p.r.id, .int .u32 p.r.seq, u4, .slice p.va p.r.value.length p.vc, u6, u7, u8, u9, .pointer (some ⟨p.kb, 0, none⟩), u11, u12, u13, .pointer (some ⟨p.gb, 0, none⟩), u15, u16, u17, u18, u19, u20, .int .i64 (p.reps : Int), .pointer (some ⟨p.mb, 0, none⟩), .slice (some ⟨p.lb, 0, none⟩) p.m p.m, u24, .pointer (some ⟨p.rb, 0, none⟩), .pointer (some ⟨p.sb, 0, none⟩), u27, .pointer (some ⟨p.hb, 0, none⟩), .slice aw p.r.later.length cw, u30, u31, u32, u33, u34, u35, u36, u37, u38, u39, u40, u41, u42, u43, u44, u45, u46, u47, u48, u49, u50, u51, u52, u53, u54, u55, u56, u57, u58, u59, u60, u61, u62, u63, u64, u65, u66, u67, u68, u69, u70, u71, u72, u73, u74, u75, u76, u77, u78, u79, u80, u81, u82, u83, u84, u85, u86, u87, u88, u89, u90, u91, u92, u93, u94, u95, u96, u97, u98, u99, u100, u101, u102, u103, u104, u105, u106, u107, u108, u109, u110, u111, u112, u113, u114, u115, u116, u117, u118, u119, u120, u121, u122, u123, u124, u125, u126, u127, u128, u129, u130, u131, u132, u133, u134, u135, u136, u137, u138, u139, u140, u141, u142, u143, u144, u145, u146, u147, u148, u149, u150, u151, u152, u153, u154, u155, u156, u157, u158, u159, u160, u161, u162, u163, u164, u165, u166, u167, u168, u169, u170, u171, u172, u173, u174, u175, u176, u177, u178, u179, u180, u181, u182, u183, u184, u185, u186, u187, u188, u189, u190, u191, u192, u193, u194, u195, u196, u197, u198, u199, u200, u201, u202, u203, u204, u205, u206, u207, u208, u209, u210, u211, u212, u213, u214, u215, u216, u217, u218, u219, u220, u221, u222, u223, u224, u225, u226, u227, u228, u229, u230, u231, u232, u233, u234, u235, u236, u237, u238, u239, u240, u241, u242, u243, u244, u245, u246, u247, u248, u249, u250, u251, u252, u253, u254, u255, u256, u257, u258, u259, u260, u261, u262, u263, u264, u265, u266, u267, u268, u269, u270, u271, u272, u273, u274, u275, u276, u277, u278, u279, u280, u281, u282, u283, u284, u285, u286, u287, u288, u289, u290, u291, u292, u293, u294, u295, u296, u297, u298, u299, u300, u301, u302, u303, u304, u305, u306, u307, u308, u309, u310, u311, u312, u313, u314, u315, u316, u317, u318, u319, u320, u321, u322, u323], []⟩ w := by
  have HL := hid h
  have HF := hid hf
  have HW := hid hw
  have hwr : IntKind.i64.wrap ((p.reps : Int) + 2) = (p.reps : Int) + 2 := by have := hf.reps; rw [IntKind.wrap_i64]; omega
  clear h hf hw
  change (Code.seq (Code.region 26 #[{ dst := some 127, op := Op.move (Operand.tmp 21), type := 3, pos := "zz_law_s6553a.go:100", after := #[], guard := none }, { dst := some 128, op := Op.binOp BinOp.add 3 (Operand.tmp 127) (Operand.const (Value.int IntKind.i64 2)) 3, type := 3, pos := "zz_law_s6553a.go:100", after := #[{ on := 0, ground := Ground.data }], guard := none }, { dst := some 30, op := Op.assign (Operand.tmp 128), type := 3, pos := "zz_law_s6553a.go:100", after := #[{ on := 1, ground := Ground.data }, { on := 0, ground := Ground.phase }, { on := 1, ground := Ground.phase }], guard := none }] false) (Code.seq (Code.seq (Code.region 27 #[{ dst := some 129, op := Op.move (Operand.tmp 30), type := 3, pos := "zz_law_s6553a.go:101", after := #[], guard := none }, { dst := some 130, op := Op.move (Operand.tmp 23), type := 28, pos := "zz_law_s6553a.go:101", after := #[], guard := none }, { dst := some 131, op := Op.call { callee := Callee.builtin Builtin.len, args := #[Operand.tmp 130], argTypes := #[28] }, type := 3, pos := "zz_law_s6553a.go:101", after := #[{ on := 1, ground := Ground.data }], guard := none }, { dst := some 132, op := Op.binOp BinOp.gtr 3 (Operand.tmp 129) (Operand.tmp 131) 3, type := 4, pos := "zz_law_s6553a.go:101", after := #[{ on := 0, ground := Ground.data }, { on := 2, ground := Ground.data }], guard := none }] false) (Code.cond (Operand.tmp 132) (Code.region 28 #[{ dst := some 133, op := Op.move (Operand.tmp 23), type := 28, pos := "zz_law_s6553a.go:102", after := #[], guard := none }, { dst := some 134, op := Op.call { callee := Callee.builtin Builtin.len, args := #[Operand.tmp 133], argTypes := #[28] }, type := 3, pos := "zz_law_s6553a.go:102", after := #[{ on := 0, ground := Ground.data }], guard := none }, { dst := some 30, op := Op.assign (Operand.tmp 134), type := 3, pos := "zz_law_s6553a.go:102", after := #[{ on := 1, ground := Ground.data }, { on := 0, ground := Ground.phase }, { on := 1, ground := Ground.phase }], guard := none }] false) Code.skip)) (tailC 22))).wp _ _ _ _
  rcases Nat.lt_or_ge p.m (p.reps + 2) with hc | hc
  · have k1 : (p.m : Int) < (p.reps : Int) + 2 := by omega
    have HC := hid hc
    clear hc
    go_wp2
    exact tail22 p HF.out Wt w s ps HL.out aw cw b HW.out _ (by have := HC.out; unfold LP.n; rw [Nat.min_eq_right (by omega)]) _ _ _ _ _ _ _ _ _ _ _ _ _ _ _ _ _ _ _ _ _ _ _ _ _ _ _ _ _ _ _ _ _ _ _ _ _ _ _ _ _ _ _ _ _ _ _ _ _ _ _ _ _ _ _ _ _ _ _ _ _ _ _ _ _ _ _ _ _ _ _ _ _ _ _ _ _ _ _ _ _ _ _ _ _ _ _ _ _ _ _ _ _ _ _ _ _ _ _ _ _ _ _ _ _ _ _ _ _ _ _ _ _ _ _ _ _ _ _ _ _ _ _ _ _ _ _ _ _ _ _ _ _ _ _ _ _ _ _ _ _ _ _ _ _ _ _ _ _ _ _ _ _ _ _ _ _ _ _ _ _ _ _ _ _ _ _ _ _ _ _ _ _ _ _ _ _ _ _ _ _ _ _ _ _ _ _ _ _ _ _ _ _ _ _ _ _ _ _ _ _ _ _ _ _ _ _ _ _ _ _ _ _ _ _ _ _ _ _ _ _ _ _ _ _ _ _ _ _ _ _ _ _ _ _ _ _ _ _ _ _ _ _ _ _ _ _ _ _ _ _ _ _ _ _ _ _ _ _ _ _ _ _ _ _ _ _ _ _ _ _ _ _ _ _ _ _ _ _ _ _ _ _ _ _ _ _ _ _ _ _ _ _ _ _ _ _ _ _ _ _ _ _ _ _ _ _ _ _ _
  · have k1 : (p.reps : Int) + 2 ≤ (p.m : Int) := by omega
    have HC := hid hc
    clear hc
    go_wp2
    exact tail22 p HF.out Wt w s ps HL.out aw cw b HW.out _ (by have := HC.out; unfold LP.n; rw [Nat.min_eq_left (by omega)]; simp) _ _ _ _ _ _ _ _ _ _ _ _ _ _ _ _ _ _ _ _ _ _ _ _ _ _ _ _ _ _ _ _ _ _ _ _ _ _ _ _ _ _ _ _ _ _ _ _ _ _ _ _ _ _ _ _ _ _ _ _ _ _ _ _ _ _ _ _ _ _ _ _ _ _ _ _ _ _ _ _ _ _ _ _ _ _ _ _ _ _ _ _ _ _ _ _ _ _ _ _ _ _ _ _ _ _ _ _ _ _ _ _ _ _ _ _ _ _ _ _ _ _ _ _ _ _ _ _ _ _ _ _ _ _ _ _ _ _ _ _ _ _ _ _ _ _ _ _ _ _ _ _ _ _ _ _ _ _ _ _ _ _ _ _ _ _ _ _ _ _ _ _ _ _ _ _ _ _ _ _ _ _ _ _ _ _ _ _ _ _ _ _ _ _ _ _ _ _ _ _ _ _ _ _ _ _ _ _ _ _ _ _ _ _ _ _ _ _ _ _ _ _ _ _ _ _ _ _ _ _ _ _ _ _ _ _ _ _ _ _ _ _ _ _ _ _ _ _ _ _ _ _ _ _ _ _ _ _ _ _ _ _ _ _ _ _ _ _ _ _ _ _ _ _ _ _ _ _ _ _ _ _ _ _ _ _ _ _ _ _ _ _ _ _ _ _ _ _ _ _ _ _ _ _ _ _ _ _ _ _

end Go.Proofs.Ybulkeero
