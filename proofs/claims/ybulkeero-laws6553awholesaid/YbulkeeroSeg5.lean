/- The law 6553A, the list and the router made (regions 7 to 13). -/
import Derived.Test.YbulkeeroSeg8
namespace Go.Proofs.Ybulkeero
open Go.RowKit Go.Joins

theorem there_sub {w : World} {b N o n : Nat} (h : w.there b 0 N) (hn : o + n ≤ N) : w.there b o n := fun j hj => by
  have := h (o + j) (by omega)
  rwa [Nat.zero_add] at this
theorem range_append {w : World} {b o : Nat} {l r : List Value} (h1 : w.rangeAt b o l) (h2 : w.rangeAt b (o + l.length) r) : w.rangeAt b o (l ++ r) := fun j v hj => by
  rcases Nat.lt_or_ge j l.length with h | h
  · rw [List.getElem?_append_left h] at hj; exact h1 j v hj
  · rw [List.getElem?_append_right h] at hj
    have := h2 (j - l.length) v hj
    rwa [show o + l.length + (j - l.length) = o + j by omega] at this
theorem range_idAt_off {w : World} {b o j : Nat} {flat : List Int} (h : w.rangeAt b o (by8 flat)) : w.rangeAt b (o + j * 20) (by8 (idAt flat j)) := fun i v hi => by
  have := h (j * 20 + i) v (by
    unfold by8 idAt at *
    rw [List.map_take, List.map_drop] at hi
    have hi' := (List.getElem?_eq_some_iff.1 hi).1
    rw [List.length_take] at hi'
    rw [List.getElem?_take_of_lt (by omega), List.getElem?_drop] at hi
    exact hi)
  rwa [← Nat.add_assoc] at this
theorem take_next {flat : List Int} {k : Nat} : flat.take ((k + 1) * 20) = flat.take (k * 20) ++ idAt flat k := by
  unfold idAt
  rw [show (k + 1) * 20 = k * 20 + 20 by omega, List.take_add]

/-- The ids as they came in. -/
def IdsAt (w : World) (ia : Option Addr) (m : Nat) (flat : List Int) : Prop := flat.length = m * 20 ∧ (m = 0 ∨ ∃ b o, ia = some ⟨b, o, none⟩ ∧ w.rangeAt b o (by8 flat))
theorem IdsAt.below {w w' : World} {ia : Option Addr} {m : Nat} {flat : List Int} (h : IdsAt w ia m flat) (hB : Below w.heap.size w w') : IdsAt w' ia m flat := by
  obtain ⟨hl, h0 | ⟨b, o, ha, hr⟩⟩ := h
  · exact ⟨hl, .inl h0⟩
  · exact ⟨hl, .inr ⟨b, o, ha, range_grow hr hB⟩⟩

/-- Ahead of the list's making. -/
structure Mid (w0 : World) (key sig value flat me : List Int) (va ia : Option Addr) (m kb gb mb : Nat) (w : World) : Prop where
  keyb : w.rangeAt kb 0 (by8 key)
  sigb : w.rangeAt gb 0 (by8 sig)
  mine : w.rangeAt mb 0 (by8 me)
  valueB : Bytes w va value.length value
  ids : IdsAt w ia m flat
  below : Below w0.heap.size w0 w
  kbLt : kb < w.heap.size
  gbLt : gb < w.heap.size
  mbLt : mb < w.heap.size
  new : w0.heap.size ≤ w.heap.size
  vals : ∀ x, va = some x → 0 < value.length → x.block < w0.heap.size
theorem Mid.later {w0 : World} {key sig value flat me : List Int} {va ia : Option Addr} {m kb gb mb : Nat} {w w' : World} (h : Mid w0 key sig value flat me va ia m kb gb mb w) (hB : Below w.heap.size w w') : Mid w0 key sig value flat me va ia m kb gb mb w' :=
  ⟨range_grow h.keyb hB, range_grow h.sigb hB, range_grow h.mine hB, h.valueB.below hB, h.ids.below hB, h.below.trans (hB.mono h.new), Nat.lt_of_lt_of_le h.kbLt hB.size, Nat.lt_of_lt_of_le h.gbLt hB.size, Nat.lt_of_lt_of_le h.mbLt hB.size, Nat.le_trans h.new hB.size, h.vals⟩

/-- k of the ids are copied. -/
structure Filled (w : World) (lb m : Nat) (flat : List Int) (k : Nat) (wr : World) : Prop where
  below : Below w.heap.size w wr
  range : wr.rangeAt lb 0 (by8 (flat.take (k * 20)))
  there : wr.there lb 0 (m * 20)
  lt : lb < wr.heap.size
  new : w.heap.size ≤ lb
theorem Filled.next {w wr : World} {lb m k : Nat} {flat : List Int} (h : Filled w lb m flat k wr) (hl : flat.length = m * 20) (hk : k < m) : Filled w lb m flat (k + 1) (wr.setCells lb (k * 20) (by8 (idAt flat k))) := by
  have hi := idAt_length hl hk
  have ht : wr.there lb (k * 20) (by8 (idAt flat k)).length := by rw [by8_length, hi]; exact there_sub h.there (by omega)
  have hlt : (flat.take (k * 20)).length = k * 20 := by rw [List.length_take, hl]; omega
  refine ⟨below_setCells h.new _ _ _ h.below, ?_, World.there_setCells h.there _ _ _, Nat.lt_of_lt_of_le h.lt (grown_setCells wr lb (k * 20) _).size, h.new⟩
  rw [take_next, show by8 (flat.take (k * 20) ++ idAt flat k) = by8 (flat.take (k * 20)) ++ by8 (idAt flat k) by simp [by8]]
  refine range_append (World.rangeAt_setCells_apart h.range _ _ _ (.inr (.inl (by rw [by8_length]; omega)))) ?_
  rw [by8_length, hlt, Nat.zero_add]
  exact World.rangeAt_setCells_same _ _ _ _ ht

theorem pre_of {w0 w wr : World} {key sig value flat me : List Int} {va ia : Option Addr} {m kb gb mb : Nat} (h : Mid w0 key sig value flat me va ia m kb gb mb w) (hF : Filled w w.heap.size m flat m wr) :
    Pre w0 key sig value flat me va m kb gb mb w.heap.size wr.heap.size (wr.alloc (.cells #[.slice (some ⟨w.heap.size, 0, none⟩) m m, .slice none 0 0, .slice none 0 0, .slice none 0 0, .slice none 0 0, .slice none 0 0, .int .i64 0] 33)) := by
  have hB1 := hF.below
  have hB2 : Below wr.heap.size wr (wr.alloc (.cells #[.slice (some ⟨w.heap.size, 0, none⟩) m m, .slice none 0 0, .slice none 0 0, .slice none 0 0, .slice none 0 0, .slice none 0 0, .int .i64 0] 33)) := (Below.refl _ _).alloc (Nat.le_refl _) _
  have h1 := h.later hB1
  have h2 := h1.later hB2
  have hr := hF.range
  rw [List.take_of_length_le (by rw [h.ids.1]; exact Nat.le_refl _)] at hr
  have a1 := h.kbLt
  have a2 := h.gbLt
  have a3 := h.mbLt
  have a4 := hF.lt
  have a5 := h.new
  exact ⟨h2.keyb, h2.sigb, h2.mine, range_grow hr hB2, h2.valueB, heap_new wr _, h2.below, hF.lt, by omega, by omega, by omega, by omega, h.vals⟩

set_option maxHeartbeats 4000000 in
set_option maxRecDepth 20000 in
theorem tail5 (w0 w : World) (key sig value flat me : List Int) (kind id seq : Int) (va ia : Option Addr) (m kb gb mb reps vc ic : Nat) (h : Mid w0 key sig value flat me va ia m kb gb mb w)
    (hkey : key.length = 20) (hsig : sig.length = 64) (k0 : 0 ≤ kind) (k1 : kind ≤ 4294967295) (i0 : 0 ≤ id) (i1 : id ≤ 4294967295) (q0 : 0 ≤ seq) (q1 : seq ≤ 4294967295) (hlen : value.length ≤ 1048576) (hme : me.length = 20) (hm : m ≤ 65536) (hreps : reps ≤ 9) (hnil : va = none → value.length = 0) (u0 u4 u7 u8 u9 u11 u12 u13 u15 u16 u17 u18 u19 u20 u23 u24 u25 u26 u27 u28 u29 u30 u31 u32 u33 u34 u35 u36 u37 u38 u39 u40 u41 u42 u43 u44 u45 u46 u47 u48 u49 u50 u51 u52 u53 u54 u55 u56 u57 u58 u59 u60 u61 u62 u63 u64 u65 u66 u67 u68 u69 u70 u71 u72 u73 u74 u75 u76 u77 u78 u79 u80 u81 u82 u83 u84 u85 u86 u87 u88 u89 u90 u91 u92 u93 u94 u95 u96 u97 u98 u99 u100 u101 u102 u103 u104 u105 u106 u107 u108 u109 u110 u111 u112 u113 u114 u115 u116 u117 u118 u119 u120 u121 u122 u123 u124 u125 u126 u127 u128 u129 u130 u131 u132 u133 u134 u135 u136 u137 u138 u139 u140 u141 u142 u143 u144 u145 u146 u147 u148 u149 u150 u151 u152 u153 u154 u155 u156 u157 u158 u159 u160 u161 u162 u163 u164 u165 u166 u167 u168 u169 u170 u171 u172 u173 u174 u175 u176 u177 u178 u179 u180 u181 u182 u183 u184 u185 u186 u187 u188 u189 u190 u191 u192 u193 u194 u195 u196 u197 u198 u199 u200 u201 u202 u203 u204 u205 u206 u207 u208 u209 u210 u211 u212 u213 u214 u215 u216 u217 u218 u219 u220 u221 u222 u223 u224 u225 u226 u227 u228 u229 u230 u231 u232 u233 u234 u235 u236 u237 u238 u239 u240 u241 u242 u243 u244 u245 u246 u247 u248 u249 u250 u251 u252 u253 u254 u255 u256 u257 u258 u259 u260 u261 u262 u263 u264 u265 u266 u267 u268 u269 u270 u271 u272 u273 u274 u275 u276 u277 u278 u279 u280 u281 u282 u283 u284 u285 u286 u287 u288 u289 u290 u291 u292 u293 u294 u295 u296 u297 u298 u299 u300 u301 u302 u303 u304 u305 u306 u307 u308 u309 u310 u311 u312 u313 u314 u315 u316 u317 u318 u319 u320 u321 u322 u323 : Value) :
    (tailC 5).wp Yba.prog (LawQ w0) ⟨#[u0, .int .u32 kind, .int .u32 id, .int .u32 seq, u4, .slice va value.length vc, .slice ia m ic, u7, u8, u9, .pointer (some ⟨kb, 0, none⟩), u11, u12, u13, .pointer (some ⟨gb, 0, none⟩), u15, u16, u17, u18, u19, u20, .int .i64 (reps : Int), .pointer (some ⟨mb, 0, none⟩), u23, u24, u25, u26, u27, u28, u29, u30, u31, u32, u33, u34, u35, u36, u37, u38, u39, u40, u41, u42, u43, u44, u45, u46, u47, u48, u49, u50, u51, u52, u53, u54, u55, u56, u57, u58, u59, u60, u61, u62, u63, u64, u65, u66, u67, u68, u69, u70, u71, u72, u73, u74, u75, u76, u77, u78, u79, u80, u81, u82, u83, u84, u85, u86, u87, u88, u89, u90, u91, u92, u93, u94, u95, u96, u97, u98, u99, u100, u101, u102, u103, u104, u105, u106, u107, u108, u109, u110, u111, u112, u113, u114, u115, u116, u117, u118, u119, u120, u121, u122, u123, u124, u125, u126, u127, u128, u129, u130, u131, u132, u133, u134, u135, u136, u137, u138, u139, u140, u141, u142, u143, u144, u145, u146, u147, u148, u149, u150, u151, u152, u153, u154, u155, u156, u157, u158, u159, u160, u161, u162, u163, u164, u165, u166, u167, u168, u169, u170, u171, u172, u173, u174, u175, u176, u177, u178, u179, u180, u181, u182, u183, u184, u185, u186, u187, u188, u189, u190, u191, u192, u193, u194, u195, u196, u197, u198, u199, u200, u201, u202, u203, u204, u205, u206, u207, u208, u209, u210, u211, u212, u213, u214, u215, u216, u217, u218, u219, u220, u221, u222, u223, u224, u225, u226, u227, u228, u229, u230, u231, u232, u233, u234, u235, u236, u237, u238, u239, u240, u241, u242, u243, u244, u245, u246, u247, u248, u249, u250, u251, u252, u253, u254, u255, u256, u257, u258, u259, u260, u261, u262, u263, u264, u265, u266, u267, u268, u269, u270, u271, u272, u273, u274, u275, u276, u277, u278, u279, u280, u281, u282, u283, u284, u285, u286, u287, u288, u289, u290, u291, u292, u293, u294, u295, u296, u297, u298, u299, u300, u301, u302, u303, u304, u305, u306, u307, u308, u309, u310, u311, u312, u313, u314, u315, u316, u317, u318, u319, u320, u321, u322, u323], []⟩ w := by
  have HM := hid h
  have hfl := h.ids.1
  have HNil := hid hnil
  clear h hnil
  obtain ⟨Z, hZ, hmk⟩ := make28 m (by omega)
  change (Code.seq (Code.region 7 #[{ dst := some 63, op := Op.move (Operand.tmp 6), type := 26, pos := "zz_law_s6553a.go:81", after := #[], guard := none }, { dst := some 64, op := Op.call { callee := Callee.builtin Builtin.len, args := #[Operand.tmp 63], argTypes := #[26] }, type := 3, pos := "zz_law_s6553a.go:81", after := #[{ on := 0, ground := Ground.data }], guard := none }, { dst := some 65, op := Op.makeSlice 28 (Operand.tmp 64) (Operand.tmp 64), type := 28, pos := "zz_law_s6553a.go:81", after := #[{ on := 1, ground := Ground.data }, { on := 1, ground := Ground.data }], guard := none }, { dst := some 23, op := Op.assign (Operand.tmp 65), type := 28, pos := "zz_law_s6553a.go:81", after := #[{ on := 2, ground := Ground.data }, { on := 0, ground := Ground.phase }, { on := 1, ground := Ground.phase }, { on := 2, ground := Ground.phase }], guard := none }] false) (Code.seq (Code.seq (Code.region 8 #[{ dst := some 66, op := Op.move (Operand.tmp 6), type := 26, pos := "zz_law_s6553a.go:82", after := #[], guard := none }, { dst := some 67, op := Op.call { callee := Callee.builtin Builtin.len, args := #[Operand.tmp 66], argTypes := #[26] }, type := 3, pos := "zz_law_s6553a.go:82", after := #[{ on := 0, ground := Ground.data }], guard := none }, { dst := some 68, op := Op.move (Operand.const (Value.int IntKind.i64 0)), type := 3, pos := "zz_law_s6553a.go:82", after := #[], guard := none }] false) (Code.block 0 ((Code.region 9 #[{ dst := some 69, op := Op.binOp BinOp.lss 3 (Operand.tmp 68) (Operand.tmp 67) 3, type := 0, pos := "zz_law_s6553a.go:82", after := #[], guard := none }] false).seq ((Code.cond (Operand.tmp 69) Code.skip (Code.exit 0)).seq ((Code.block 1 ((Code.region 10 #[{ dst := some 70, op := Op.move (Operand.tmp 68), type := 3, pos := "zz_law_s6553a.go:82", after := #[], guard := none }, { dst := some 24, op := Op.assign (Operand.tmp 70), type := 3, pos := "zz_law_s6553a.go:82", after := #[{ on := 0, ground := Ground.data }, { on := 0, ground := Ground.phase }], guard := none }] false).seq (Code.region 11 #[{ dst := some 71, op := Op.move (Operand.tmp 23), type := 28, pos := "zz_law_s6553a.go:83", after := #[], guard := none }, { dst := some 72, op := Op.move (Operand.tmp 24), type := 3, pos := "zz_law_s6553a.go:83", after := #[], guard := none }, { dst := some 73, op := Op.move (Operand.tmp 6), type := 26, pos := "zz_law_s6553a.go:83", after := #[], guard := none }, { dst := some 74, op := Op.move (Operand.tmp 24), type := 3, pos := "zz_law_s6553a.go:83", after := #[], guard := none }, { dst := some 75, op := Op.indexAddr 26 (Operand.tmp 73) (Operand.tmp 74), type := 0, pos := "zz_law_s6553a.go:83", after := #[{ on := 2, ground := Ground.data }, { on := 3, ground := Ground.data }], guard := none }, { dst := some 76, op := Op.load 22 (Operand.tmp 75), type := 22, pos := "zz_law_s6553a.go:83", after := #[{ on := 4, ground := Ground.data }], guard := none }, { dst := some 77, op := Op.indexAddr 28 (Operand.tmp 71) (Operand.tmp 72), type := 0, pos := "zz_law_s6553a.go:83", after := #[{ on := 0, ground := Ground.data }, { on := 1, ground := Ground.data }, { on := 0, ground := Ground.phase }, { on := 1, ground := Ground.phase }, { on := 2, ground := Ground.phase }, { on := 3, ground := Ground.phase }, { on := 4, ground := Ground.phase }, { on := 5, ground := Ground.phase }], guard := none }, { dst := none, op := Op.store 27 (Operand.tmp 77) (Operand.tmp 76), type := 0, pos := "zz_law_s6553a.go:83", after := #[{ on := 6, ground := Ground.data }, { on := 5, ground := Ground.data }, { on := 0, ground := Ground.phase }, { on := 1, ground := Ground.phase }, { on := 2, ground := Ground.phase }, { on := 3, ground := Ground.phase }, { on := 4, ground := Ground.phase }, { on := 5, ground := Ground.phase }], guard := none }] false))).seq (Code.region 12 #[{ dst := some 78, op := Op.binOp BinOp.add 3 (Operand.tmp 68) (Operand.const (Value.int IntKind.i64 1)) 3, type := 3, pos := "zz_law_s6553a.go:82", after := #[], guard := none }, { dst := some 68, op := Op.move (Operand.tmp 78), type := 3, pos := "zz_law_s6553a.go:82", after := #[{ on := 0, ground := Ground.data }], guard := none }] false)))).loop)) (Code.seq (Code.region 13 #[{ dst := some 79, op := Op.move (Operand.tmp 23), type := 28, pos := "zz_law_s6553a.go:85", after := #[], guard := none }, { dst := some 80, op := Op.build 33 #[(0, Operand.tmp 79)], type := 33, pos := "zz_law_s6553a.go:85", after := #[{ on := 0, ground := Ground.data }], guard := none }, { dst := some 81, op := Op.box 33 (Operand.tmp 80), type := 29, pos := "zz_law_s6553a.go:85", after := #[{ on := 1, ground := Ground.data }], guard := none }, { dst := some 25, op := Op.assign (Operand.tmp 81), type := 29, pos := "zz_law_s6553a.go:85", after := #[{ on := 2, ground := Ground.data }, { on := 0, ground := Ground.phase }, { on := 1, ground := Ground.phase }, { on := 2, ground := Ground.phase }], guard := none }] false) (tailC 8)))).wp _ _ _ _
  have HF0 : Hid (Filled w w.heap.size m flat 0 (w.alloc (.cells Z 27))) := ⟨(Below.refl _ _).alloc (Nat.le_refl _) _, fun j v hj => (by simp [by8] at hj), there_new w Z 27 _ hZ, by simp, Nat.le_refl _⟩
  go_wp2
  go_loopw [68] (fun i wr => ∃ k : Nat, k ≤ m ∧ i = .int .i64 k ∧ Hid (Filled w w.heap.size m flat k wr)) (fun i _ => m - (intOf i).toNat)
  case atStart => exact ⟨0, Nat.zero_le _, by rfl, HF0⟩
  case round =>
    clear HF0 hmk
    obtain ⟨k, hk, rfl, HG⟩ := hrel
    by_cases hkn : k < m
    case neg =>
      obtain rfl : k = m := by omega
      go_wp2
      refine tail8 w0 _ key sig value flat me kind id seq va k kb gb mb w.heap.size wr.heap.size reps vc (pre_of HM.out HG.out) hkey hsig k0 k1 i0 i1 q0 q1 hlen hme hm hreps hfl HNil.out _ _ _ _ _ _ _ _ _ _ _ _ _ _ _ _ _ _ _ _ _ _ _ _ _ _ _ _ _ _ _ _ _ _ _ _ _ _ _ _ _ _ _ _ _ _ _ _ _ _ _ _ _ _ _ _ _ _ _ _ _ _ _ _ _ _ _ _ _ _ _ _ _ _ _ _ _ _ _ _ _ _ _ _ _ _ _ _ _ _ _ _ _ _ _ _ _ _ _ _ _ _ _ _ _ _ _ _ _ _ _ _ _ _ _ _ _ _ _ _ _ _ _ _ _ _ _ _ _ _ _ _ _ _ _ _ _ _ _ _ _ _ _ _ _ _ _ _ _ _ _ _ _ _ _ _ _ _ _ _ _ _ _ _ _ _ _ _ _ _ _ _ _ _ _ _ _ _ _ _ _ _ _ _ _ _ _ _ _ _ _ _ _ _ _ _ _ _ _ _ _ _ _ _ _ _ _ _ _ _ _ _ _ _ _ _ _ _ _ _ _ _ _ _ _ _ _ _ _ _ _ _ _ _ _ _ _ _ _ _ _ _ _ _ _ _ _ _ _ _ _ _ _ _ _ _ _ _ _ _ _ _ _ _ _ _ _ _ _ _ _ _ _ _ _ _ _ _ _ _ _ _ _ _ _ _ _ _ _ _ _ _ _ _ _ _ _ _ _ _ _ _ _ _ _ _ _ _ _ _ _ _ _ _
    case pos =>
      have j0 : (0 : Int) ≤ (k : Int) := by omega
      have j1 : (k : Int) < (m : Int) := by omega
      have HW := hid (wrap_succ k (by omega))
      have hidl : (idAt flat k).length = 20 := idAt_length hfl hkn
      obtain ⟨-, h0 | ⟨b, o, rfl, hrg⟩⟩ := (HM.out.later HG.out.below).ids
      · omega
      have hidr := range_idAt_off (j := k) hrg
      have HN' := hid (HG.out.next hfl hkn)
      have hth := there_sub (o := k * 20) (n := 20) HG.out.there (by omega)
      clear hrg HG
      go_upto_region 11 with fail
      rename_i K9 hK9
      refine wp_region_list ?_
      refine wpList_value (v := .slice (some ⟨w.heap.size, 0, none⟩) m m) (w' := wr) rfl (by go_simp) ?_
      simp only [Act.put, List.setIfInBounds_toArray, List.set_cons_zero, List.set_cons_succ]
      refine wpList_value (v := .int .i64 (k : Int)) (w' := wr) rfl (by go_simp) ?_
      simp only [Act.put, List.setIfInBounds_toArray, List.set_cons_zero, List.set_cons_succ]
      refine wpList_value (v := .slice (some ⟨b, o, none⟩) m ic) (w' := wr) rfl (by go_simp) ?_
      simp only [Act.put, List.setIfInBounds_toArray, List.set_cons_zero, List.set_cons_succ]
      refine wpList_value (v := .int .i64 (k : Int)) (w' := wr) rfl (by go_simp) ?_
      simp only [Act.put, List.setIfInBounds_toArray, List.set_cons_zero, List.set_cons_succ]
      refine wpList_value (v := .pointer (some ⟨b, o + k * 20, none⟩)) (w' := wr) rfl (by go_simp) ?_
      simp only [Act.put, List.setIfInBounds_toArray, List.set_cons_zero, List.set_cons_succ]
      refine wpList_value rfl (load22 rfl rfl hidl hidr) ?_
      simp only [Act.put, List.setIfInBounds_toArray, List.set_cons_zero, List.set_cons_succ]
      refine wpList_value (v := .pointer (some ⟨w.heap.size, k * 20, none⟩)) (w' := wr) rfl (by go_simp) ?_
      simp only [Act.put, List.setIfInBounds_toArray, List.set_cons_zero, List.set_cons_succ]
      refine wpList_skip rfl (exec_store_mid 27 _ _ rfl w.heap.size (k * 20) (by8 (idAt flat k)).toArray rfl rfl (by show World.there _ _ _ (by8 (idAt flat k)).length; rw [by8_length, hidl]; exact hth) (by show _ = some (by8 (idAt flat k)).length; rw [by8_length, hidl]; exact Yba.size27) (all_oneCell_toArray (by8_one _))) ?_
      simp only [Act.put]
      change wpList _ _ _ _ _ (wr.setCells w.heap.size (k * 20) (by8 (idAt flat k)))
      generalize wr.setCells w.heap.size (k * 20) (by8 (idAt flat k)) = w2 at *
      clear hidr hth
      refine wpList_nil ?_
      have hwk := HW.out
      go_wp2
      clear hwk
      go_roundw
      case rel => exact ⟨k + 1, by omega, by go_num, HN'⟩
      case measure => simp [intOf]; omega

end Go.Proofs.Ybulkeero
