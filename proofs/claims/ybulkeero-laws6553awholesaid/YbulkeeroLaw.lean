/- The law 6553A, whole. -/
import Derived.Test.YbulkeeroSeg5
namespace Go.Proofs.Ybulkeero
open Go.RowKit Go.Joins

/-- What the law is given. -/
structure Given (w : World) (key sig own value flat : List Int) (kind id seq pick repl : Int) (va ia : Option Addr) (n m : Nat) : Prop where
  key : key.length = 20
  sig : sig.length = 64
  own : own.length = 20
  valueB : Bytes w va n value
  ids : IdsAt w ia m flat
  k0 : 0 ≤ kind
  k1 : kind ≤ 4294967295
  i0 : 0 ≤ id
  i1 : id ≤ 4294967295
  q0 : 0 ≤ seq
  q1 : seq ≤ 4294967295
  p0 : 0 ≤ pick
  p1 : pick ≤ 255
  r0 : 0 ≤ repl
  r1 : repl ≤ 255
  nil : va = none → n = 0

theorem boxed3 (w : World) (key sig own : List Int) : Below w.heap.size w (((w.alloc (.cells (by8 key).toArray 22)).alloc (.cells (by8 sig).toArray 24)).alloc (.cells (by8 own).toArray 22)) :=
  (((Below.refl _ w).alloc (Nat.le_refl _) _).alloc (by simp) _).alloc (by simp; omega) _
theorem mid_start {w : World} {key sig own value flat : List Int} {kind id seq pick repl : Int} {va ia : Option Addr} {n m : Nat} (h : Given w key sig own value flat kind id seq pick repl va ia n m) (Z : Array Value) (hZ : Z.size = 20) :
    Mid w key sig value flat own va ia m w.heap.size (w.heap.size + 1) (w.heap.size + 1 + 1 + 1) (((((w.alloc (.cells (by8 key).toArray 22)).alloc (.cells (by8 sig).toArray 24)).alloc (.cells (by8 own).toArray 22)).alloc (.cells Z 27)).setCells (w.heap.size + 1 + 1 + 1) 0 (by8 own)) ∧
      (((((w.alloc (.cells (by8 key).toArray 22)).alloc (.cells (by8 sig).toArray 24)).alloc (.cells (by8 own).toArray 22)).alloc (.cells Z 27)).setCells (w.heap.size + 1 + 1 + 1) 0 (by8 own)).there (w.heap.size + 1 + 1 + 1) 0 20 := by
  obtain ⟨W3, e3⟩ : ∃ W, W = ((w.alloc (.cells (by8 key).toArray 22)).alloc (.cells (by8 sig).toArray 24)).alloc (.cells (by8 own).toArray 22) := ⟨_, rfl⟩
  have hs3 : W3.heap.size = w.heap.size + 1 + 1 + 1 := by rw [e3]; simp
  have hB3 : Below w.heap.size w W3 := by rw [e3]; exact boxed3 w key sig own
  have hk3 : W3.rangeAt w.heap.size 0 (by8 key) := by rw [e3]; exact World.rangeAt_alloc (World.rangeAt_alloc (range_new w (by8 key) 22) _) _
  have hg3 : W3.rangeAt (w.heap.size + 1) 0 (by8 sig) := by
    rw [e3]
    have := range_new (w.alloc (.cells (by8 key).toArray 22)) (by8 sig) 24
    rw [show (w.alloc (.cells (by8 key).toArray 22)).heap.size = w.heap.size + 1 by simp] at this
    exact World.rangeAt_alloc this _
  rw [← e3, ← hs3]
  have hth : (W3.alloc (.cells Z 27)).there W3.heap.size 0 20 := there_new W3 Z 27 20 hZ
  have hB : Below W3.heap.size W3 ((W3.alloc (.cells Z 27)).setCells W3.heap.size 0 (by8 own)) := below_setCells (Nat.le_refl _) _ _ _ ((Below.refl _ _).alloc (Nat.le_refl _) _)
  have hsz : W3.heap.size < ((W3.alloc (.cells Z 27)).setCells W3.heap.size 0 (by8 own)).heap.size := by
    have := (grown_setCells (W3.alloc (.cells Z 27)) W3.heap.size 0 (by8 own)).size
    simp at this
    omega
  have hl : value.length = n := h.valueB.1
  refine ⟨⟨range_grow hk3 hB, range_grow hg3 hB, World.rangeAt_setCells_same _ _ _ _ (by rw [by8_length, h.own]; exact hth), ?_, (h.ids.below hB3).below hB, hB3.trans (hB.mono (by omega)), by omega, by omega, hsz, by omega, ?_⟩, World.there_setCells hth _ _ _⟩
  · rw [hl]
    exact (h.valueB.below hB3).below hB
  · intro x hx hp
    obtain ⟨h1, h2 | ⟨b, o, ha, hr⟩⟩ := h.valueB
    · omega
    · rw [ha] at hx
      cases hx
      exact range_lt hr hp
/-- Another id is the node's own. -/
theorem mid_me {w0 w : World} {key sig value flat own me : List Int} {va ia : Option Addr} {m kb gb mb : Nat} (h : Mid w0 key sig value flat own va ia m kb gb mb w) (ht : w.there mb 0 20) (hme : me.length = 20) (hlt : w0.heap.size ≤ mb) (h1 : kb < mb) (h2 : gb < mb) (hv : Bytes w0 va value.length value) (hi : IdsAt w0 ia m flat) :
    Mid w0 key sig value flat me va ia m kb gb mb (w.setCells mb 0 (by8 me)) := by
  have hg := grown_setCells w mb 0 (by8 me)
  have hB : Below mb w (w.setCells mb 0 (by8 me)) := below_setCells (Nat.le_refl _) _ _ _ (Below.refl _ _)
  have hB0 : Below w0.heap.size w (w.setCells mb 0 (by8 me)) := hB.mono hlt
  refine ⟨range_below h.keyb hB h1, range_below h.sigb hB h2, World.rangeAt_setCells_same _ _ _ _ (by rw [by8_length, hme]; exact ht), hv.below (h.below.trans hB0), hi.below (h.below.trans hB0), h.below.trans hB0, ?_, ?_, ?_, Nat.le_trans h.new hg.size, h.vals⟩
  · exact Nat.lt_of_lt_of_le h.kbLt hg.size
  · exact Nat.lt_of_lt_of_le h.gbLt hg.size
  · exact Nat.lt_of_lt_of_le h.mbLt hg.size

set_option maxHeartbeats 4000000 in
set_option maxRecDepth 20000 in
theorem law_any (w : World) (key sig own value flat : List Int) (kind id seq pick repl : Int) (va ia : Option Addr) (n vc m ic : Nat) (h : Given w key sig own value flat kind id seq pick repl va ia n m) :
    Calls Yba.prog 3 #[.agg (by8 key).toArray, .int .u32 kind, .int .u32 id, .int .u32 seq, .agg (by8 sig).toArray, .slice va n vc, .slice ia m ic, .agg (by8 own).toArray, .int .u8 pick, .int .u8 repl] w (LawEnd w) := by
  have HG := hid h
  have hB3 := hid (boxed3 w key sig own)
  have r0 := h.r0
  have r1 := h.r1
  have p0 := h.p0
  have p1 := h.p1
  rcases Nat.lt_or_ge 1048576 n with hn | hn
  · have k1 : (1048576 : Int) < (n : Int) := by omega
    clear h
    go_enter Yba.func3, Yba.ntmps3
    go_wp2
    go_ret
    exact ⟨rfl, hB3.out⟩
  rcases Nat.lt_or_ge 65536 m with hm | hm
  · have k1 : (n : Int) ≤ 1048576 := by omega
    have k2 : (65536 : Int) < (m : Int) := by omega
    clear h
    go_enter Yba.func3, Yba.ntmps3
    go_wp2
    go_ret
    exact ⟨rfl, hB3.out⟩
  have k1 : (n : Int) ≤ 1048576 := by omega
  have k2 : (m : Int) ≤ 65536 := by omega
  have hse := h.own
  obtain ⟨reps, hreps⟩ : ∃ reps : Nat, repl % 10 = (reps : Int) := ⟨(repl % 10).toNat, by omega⟩
  have hr9 : reps ≤ 9 := by omega
  obtain rfl : value.length = n := h.valueB.1
  clear h
  go_enter Yba.func3, Yba.ntmps3
  change (Code.seq (Code.region 0 #[{ dst := some 10, op := Op.box 22 (Operand.tmp 0), type := 0, pos := "zz_law_s6553a.go:72", after := #[], guard := none }, { dst := some 14, op := Op.box 24 (Operand.tmp 4), type := 0, pos := "zz_law_s6553a.go:72", after := #[], guard := none }, { dst := some 17, op := Op.box 22 (Operand.tmp 7), type := 0, pos := "zz_law_s6553a.go:72", after := #[], guard := none }, { dst := some 20, op := Op.assign (Operand.const (Value.bool false)), type := 4, pos := "zz_law_s6553a.go:72", after := #[], guard := none }] false) (Code.seq (Code.seq (Code.region 1 #[{ dst := some 34, op := Op.move (Operand.tmp 5), type := 25, pos := "zz_law_s6553a.go:73", after := #[], guard := none }, { dst := some 35, op := Op.call { callee := Callee.builtin Builtin.len, args := #[Operand.tmp 34], argTypes := #[25] }, type := 3, pos := "zz_law_s6553a.go:73", after := #[{ on := 0, ground := Ground.data }], guard := none }, { dst := some 36, op := Op.binOp BinOp.gtr 3 (Operand.tmp 35) (Operand.const (Value.int IntKind.i64 1048576)) 3, type := 4, pos := "zz_law_s6553a.go:73", after := #[{ on := 1, ground := Ground.data }], guard := none }, { dst := some 37, op := Op.move (Operand.tmp 36), type := 4, pos := "zz_law_s6553a.go:73", after := #[{ on := 2, ground := Ground.data }], guard := none }, { dst := some 38, op := Op.move (Operand.tmp 6), type := 26, pos := "zz_law_s6553a.go:73", after := #[{ on := 3, ground := Ground.guard }], guard := some (3, false) }, { dst := some 39, op := Op.call { callee := Callee.builtin Builtin.len, args := #[Operand.tmp 38], argTypes := #[26] }, type := 3, pos := "zz_law_s6553a.go:73", after := #[{ on := 4, ground := Ground.data }, { on := 3, ground := Ground.guard }], guard := some (3, false) }, { dst := some 40, op := Op.binOp BinOp.gtr 3 (Operand.tmp 39) (Operand.const (Value.int IntKind.i64 65536)) 3, type := 4, pos := "zz_law_s6553a.go:73", after := #[{ on := 5, ground := Ground.data }, { on := 3, ground := Ground.guard }], guard := some (3, false) }, { dst := some 41, op := Op.pick (Operand.tmp 37) (Operand.const (Value.bool true)) (Operand.tmp 40), type := 4, pos := "zz_law_s6553a.go:73", after := #[{ on := 3, ground := Ground.data }, { on := 6, ground := Ground.data }], guard := none }] false) (Code.cond (Operand.tmp 41) ((Code.region 2 #[{ dst := some 20, op := Op.assign (Operand.const (Value.bool true)), type := 4, pos := "zz_law_s6553a.go:74", after := #[], guard := none }] false).seq Code.ret) Code.skip)) (Code.seq (Code.region 3 #[{ dst := some 42, op := Op.move (Operand.tmp 9), type := 5, pos := "zz_law_s6553a.go:76", after := #[], guard := none }, { dst := some 43, op := Op.binOp BinOp.rem 5 (Operand.tmp 42) (Operand.const (Value.int IntKind.u8 10)) 5, type := 5, pos := "zz_law_s6553a.go:76", after := #[{ on := 0, ground := Ground.data }], guard := none }, { dst := some 44, op := Op.convert 5 3 (Operand.tmp 43), type := 3, pos := "zz_law_s6553a.go:76", after := #[{ on := 1, ground := Ground.data }], guard := none }, { dst := some 21, op := Op.assign (Operand.tmp 44), type := 3, pos := "zz_law_s6553a.go:76", after := #[{ on := 2, ground := Ground.data }, { on := 0, ground := Ground.phase }, { on := 1, ground := Ground.phase }, { on := 2, ground := Ground.phase }], guard := none }] false) (Code.seq (Code.region 4 #[{ dst := some 45, op := Op.load 22 (Operand.tmp 17), type := 22, pos := "zz_law_s6553a.go:77", after := #[], guard := none }, { dst := some 22, op := Op.alloc 27, type := 0, pos := "zz_law_s6553a.go:77", after := #[], guard := none }, { dst := none, op := Op.store 27 (Operand.tmp 22) (Operand.tmp 45), type := 0, pos := "zz_law_s6553a.go:77", after := #[{ on := 1, ground := Ground.data }, { on := 0, ground := Ground.data }, { on := 0, ground := Ground.phase }, { on := 1, ground := Ground.phase }], guard := none }] false) (Code.seq (Code.seq (Code.region 5 #[{ dst := some 46, op := Op.move (Operand.tmp 6), type := 26, pos := "zz_law_s6553a.go:78", after := #[], guard := none }, { dst := some 47, op := Op.call { callee := Callee.builtin Builtin.len, args := #[Operand.tmp 46], argTypes := #[26] }, type := 3, pos := "zz_law_s6553a.go:78", after := #[{ on := 0, ground := Ground.data }], guard := none }, { dst := some 48, op := Op.binOp BinOp.gtr 3 (Operand.tmp 47) (Operand.const (Value.int IntKind.i64 0)) 3, type := 4, pos := "zz_law_s6553a.go:78", after := #[{ on := 1, ground := Ground.data }], guard := none }, { dst := some 49, op := Op.move (Operand.tmp 48), type := 4, pos := "zz_law_s6553a.go:78", after := #[{ on := 2, ground := Ground.data }], guard := none }, { dst := some 50, op := Op.move (Operand.tmp 8), type := 5, pos := "zz_law_s6553a.go:78", after := #[{ on := 3, ground := Ground.guard }], guard := some (3, true) }, { dst := some 51, op := Op.binOp BinOp.rem 5 (Operand.tmp 50) (Operand.const (Value.int IntKind.u8 2)) 5, type := 5, pos := "zz_law_s6553a.go:78", after := #[{ on := 4, ground := Ground.data }, { on := 3, ground := Ground.guard }], guard := some (3, true) }, { dst := some 52, op := Op.binOp BinOp.eql 5 (Operand.tmp 51) (Operand.const (Value.int IntKind.u8 0)) 5, type := 4, pos := "zz_law_s6553a.go:78", after := #[{ on := 5, ground := Ground.data }, { on := 3, ground := Ground.guard }], guard := some (3, true) }, { dst := some 53, op := Op.pick (Operand.tmp 49) (Operand.tmp 52) (Operand.const (Value.bool false)), type := 4, pos := "zz_law_s6553a.go:78", after := #[{ on := 3, ground := Ground.data }, { on := 6, ground := Ground.data }], guard := none }] false) (Code.cond (Operand.tmp 53) (Code.region 6 #[{ dst := some 54, op := Op.move (Operand.tmp 6), type := 26, pos := "zz_law_s6553a.go:79", after := #[], guard := none }, { dst := some 55, op := Op.move (Operand.tmp 8), type := 5, pos := "zz_law_s6553a.go:79", after := #[], guard := none }, { dst := some 56, op := Op.binOp BinOp.quo 5 (Operand.tmp 55) (Operand.const (Value.int IntKind.u8 2)) 5, type := 5, pos := "zz_law_s6553a.go:79", after := #[{ on := 1, ground := Ground.data }], guard := none }, { dst := some 57, op := Op.convert 5 3 (Operand.tmp 56), type := 3, pos := "zz_law_s6553a.go:79", after := #[{ on := 2, ground := Ground.data }], guard := none }, { dst := some 58, op := Op.move (Operand.tmp 6), type := 26, pos := "zz_law_s6553a.go:79", after := #[], guard := none }, { dst := some 59, op := Op.call { callee := Callee.builtin Builtin.len, args := #[Operand.tmp 58], argTypes := #[26] }, type := 3, pos := "zz_law_s6553a.go:79", after := #[{ on := 4, ground := Ground.data }], guard := none }, { dst := some 60, op := Op.binOp BinOp.rem 3 (Operand.tmp 57) (Operand.tmp 59) 3, type := 3, pos := "zz_law_s6553a.go:79", after := #[{ on := 3, ground := Ground.data }, { on := 5, ground := Ground.data }], guard := none }, { dst := some 61, op := Op.indexAddr 26 (Operand.tmp 54) (Operand.tmp 60), type := 0, pos := "zz_law_s6553a.go:79", after := #[{ on := 0, ground := Ground.data }, { on := 6, ground := Ground.data }], guard := none }, { dst := some 62, op := Op.load 22 (Operand.tmp 61), type := 22, pos := "zz_law_s6553a.go:79", after := #[{ on := 7, ground := Ground.data }], guard := none }, { dst := none, op := Op.store 27 (Operand.tmp 22) (Operand.tmp 62), type := 0, pos := "zz_law_s6553a.go:79", after := #[{ on := 8, ground := Ground.data }, { on := 0, ground := Ground.phase }, { on := 1, ground := Ground.phase }, { on := 2, ground := Ground.phase }, { on := 3, ground := Ground.phase }, { on := 4, ground := Ground.phase }, { on := 5, ground := Ground.phase }, { on := 6, ground := Ground.phase }, { on := 7, ground := Ground.phase }, { on := 8, ground := Ground.phase }], guard := none }] false) Code.skip)) (tailC 5)))))).wp _ (LawQ w) _ _
  go_upto_region 4 with fail
  rename_i K4 hK4
  refine wp_region_list ?_
  have hrs : (((w.alloc (.cells (by8 key).toArray 22)).alloc (.cells (by8 sig).toArray 24)).alloc (.cells (by8 own).toArray 22)).rangeAt (w.heap.size + 1 + 1) 0 (by8 own) := by
    have := range_new ((w.alloc (.cells (by8 key).toArray 22)).alloc (.cells (by8 sig).toArray 24)) (by8 own) 22
    rwa [show ((w.alloc (.cells (by8 key).toArray 22)).alloc (.cells (by8 sig).toArray 24)).heap.size = w.heap.size + 1 + 1 by simp] at this
  have HS := hid (mid_start HG.out #[.int .u8 0, .int .u8 0, .int .u8 0, .int .u8 0, .int .u8 0, .int .u8 0, .int .u8 0, .int .u8 0, .int .u8 0, .int .u8 0, .int .u8 0, .int .u8 0, .int .u8 0, .int .u8 0, .int .u8 0, .int .u8 0, .int .u8 0, .int .u8 0, .int .u8 0, .int .u8 0] rfl)
  have hth0 : ((((w.alloc (.cells (by8 key).toArray 22)).alloc (.cells (by8 sig).toArray 24)).alloc (.cells (by8 own).toArray 22)).alloc (.cells #[.int .u8 0, .int .u8 0, .int .u8 0, .int .u8 0, .int .u8 0, .int .u8 0, .int .u8 0, .int .u8 0, .int .u8 0, .int .u8 0, .int .u8 0, .int .u8 0, .int .u8 0, .int .u8 0, .int .u8 0, .int .u8 0, .int .u8 0, .int .u8 0, .int .u8 0, .int .u8 0] 27)).there (w.heap.size + 1 + 1 + 1) 0 20 := by
    have := there_new (((w.alloc (.cells (by8 key).toArray 22)).alloc (.cells (by8 sig).toArray 24)).alloc (.cells (by8 own).toArray 22)) #[.int .u8 0, .int .u8 0, .int .u8 0, .int .u8 0, .int .u8 0, .int .u8 0, .int .u8 0, .int .u8 0, .int .u8 0, .int .u8 0, .int .u8 0, .int .u8 0, .int .u8 0, .int .u8 0, .int .u8 0, .int .u8 0, .int .u8 0, .int .u8 0, .int .u8 0, .int .u8 0] 27 20 rfl
    rwa [show (((w.alloc (.cells (by8 key).toArray 22)).alloc (.cells (by8 sig).toArray 24)).alloc (.cells (by8 own).toArray 22)).heap.size = w.heap.size + 1 + 1 + 1 by simp] at this
  refine wpList_value rfl (load22 rfl rfl hse hrs) ?_
  simp only [Act.put, List.setIfInBounds_toArray, List.set_cons_zero, List.set_cons_succ]
  refine wpList_value (v := .pointer (some ⟨w.heap.size + 1 + 1 + 1, 0, none⟩)) (w' := (((w.alloc (.cells (by8 key).toArray 22)).alloc (.cells (by8 sig).toArray 24)).alloc (.cells (by8 own).toArray 22)).alloc (.cells #[.int .u8 0, .int .u8 0, .int .u8 0, .int .u8 0, .int .u8 0, .int .u8 0, .int .u8 0, .int .u8 0, .int .u8 0, .int .u8 0, .int .u8 0, .int .u8 0, .int .u8 0, .int .u8 0, .int .u8 0, .int .u8 0, .int .u8 0, .int .u8 0, .int .u8 0, .int .u8 0] 27)) rfl (by go_simp) ?_
  simp only [Act.put, List.setIfInBounds_toArray, List.set_cons_zero, List.set_cons_succ]
  refine wpList_skip rfl (exec_store_mid 27 _ _ rfl (w.heap.size + 1 + 1 + 1) 0 (by8 own).toArray rfl rfl (by show World.there _ _ _ (by8 own).length; rw [by8_length, hse]; exact hth0) (by show _ = some (by8 own).length; rw [by8_length, hse]; exact Yba.size27) (all_oneCell_toArray (by8_one _))) ?_
  simp only [Act.put]
  change wpList _ _ _ _ _ (((((w.alloc (.cells (by8 key).toArray 22)).alloc (.cells (by8 sig).toArray 24)).alloc (.cells (by8 own).toArray 22)).alloc (.cells #[.int .u8 0, .int .u8 0, .int .u8 0, .int .u8 0, .int .u8 0, .int .u8 0, .int .u8 0, .int .u8 0, .int .u8 0, .int .u8 0, .int .u8 0, .int .u8 0, .int .u8 0, .int .u8 0, .int .u8 0, .int .u8 0, .int .u8 0, .int .u8 0, .int .u8 0, .int .u8 0] 27)).setCells (w.heap.size + 1 + 1 + 1) 0 (by8 own))
  generalize ((((w.alloc (.cells (by8 key).toArray 22)).alloc (.cells (by8 sig).toArray 24)).alloc (.cells (by8 own).toArray 22)).alloc (.cells #[.int .u8 0, .int .u8 0, .int .u8 0, .int .u8 0, .int .u8 0, .int .u8 0, .int .u8 0, .int .u8 0, .int .u8 0, .int .u8 0, .int .u8 0, .int .u8 0, .int .u8 0, .int .u8 0, .int .u8 0, .int .u8 0, .int .u8 0, .int .u8 0, .int .u8 0, .int .u8 0] 27)).setCells (w.heap.size + 1 + 1 + 1) 0 (by8 own) = w4 at *
  clear hrs hth0 hB3
  refine wpList_nil (hK4 _ _ ?_)
  clear hK4 K4
  have hml : value.length ≤ 1048576 := hn
  by_cases hsel : 0 < m ∧ pick % 2 = 0
  case neg =>
    rcases Nat.eq_zero_or_pos m with hm0 | hm0
    · subst hm0
      clear hsel
      go_wp2
      exact tail5 w w4 key sig value flat own kind id seq va ia 0 _ _ _ reps vc ic HS.out.1 HG.out.key HG.out.sig HG.out.k0 HG.out.k1 HG.out.i0 HG.out.i1 HG.out.q0 HG.out.q1 hml hse (by omega) hr9 HG.out.nil _ _ _ _ _ _ _ _ _ _ _ _ _ _ _ _ _ _ _ _ _ _ _ _ _ _ _ _ _ _ _ _ _ _ _ _ _ _ _ _ _ _ _ _ _ _ _ _ _ _ _ _ _ _ _ _ _ _ _ _ _ _ _ _ _ _ _ _ _ _ _ _ _ _ _ _ _ _ _ _ _ _ _ _ _ _ _ _ _ _ _ _ _ _ _ _ _ _ _ _ _ _ _ _ _ _ _ _ _ _ _ _ _ _ _ _ _ _ _ _ _ _ _ _ _ _ _ _ _ _ _ _ _ _ _ _ _ _ _ _ _ _ _ _ _ _ _ _ _ _ _ _ _ _ _ _ _ _ _ _ _ _ _ _ _ _ _ _ _ _ _ _ _ _ _ _ _ _ _ _ _ _ _ _ _ _ _ _ _ _ _ _ _ _ _ _ _ _ _ _ _ _ _ _ _ _ _ _ _ _ _ _ _ _ _ _ _ _ _ _ _ _ _ _ _ _ _ _ _ _ _ _ _ _ _ _ _ _ _ _ _ _ _ _ _ _ _ _ _ _ _ _ _ _ _ _ _ _ _ _ _ _ _ _ _ _ _ _ _ _ _ _ _ _ _ _ _ _ _ _ _ _ _ _ _ _ _ _ _ _ _ _ _ _ _ _ _ _ _ _ _ _ _ _ _ _ _ _ _ _ _ _ _ _ _
    · have l1 : (0 : Int) < (m : Int) := by omega
      have l2 : ¬ pick % 2 = 0 := fun e => hsel ⟨hm0, e⟩
      clear hsel
      go_wp2
      exact tail5 w w4 key sig value flat own kind id seq va ia m _ _ _ reps vc ic HS.out.1 HG.out.key HG.out.sig HG.out.k0 HG.out.k1 HG.out.i0 HG.out.i1 HG.out.q0 HG.out.q1 hml hse hm hr9 HG.out.nil _ _ _ _ _ _ _ _ _ _ _ _ _ _ _ _ _ _ _ _ _ _ _ _ _ _ _ _ _ _ _ _ _ _ _ _ _ _ _ _ _ _ _ _ _ _ _ _ _ _ _ _ _ _ _ _ _ _ _ _ _ _ _ _ _ _ _ _ _ _ _ _ _ _ _ _ _ _ _ _ _ _ _ _ _ _ _ _ _ _ _ _ _ _ _ _ _ _ _ _ _ _ _ _ _ _ _ _ _ _ _ _ _ _ _ _ _ _ _ _ _ _ _ _ _ _ _ _ _ _ _ _ _ _ _ _ _ _ _ _ _ _ _ _ _ _ _ _ _ _ _ _ _ _ _ _ _ _ _ _ _ _ _ _ _ _ _ _ _ _ _ _ _ _ _ _ _ _ _ _ _ _ _ _ _ _ _ _ _ _ _ _ _ _ _ _ _ _ _ _ _ _ _ _ _ _ _ _ _ _ _ _ _ _ _ _ _ _ _ _ _ _ _ _ _ _ _ _ _ _ _ _ _ _ _ _ _ _ _ _ _ _ _ _ _ _ _ _ _ _ _ _ _ _ _ _ _ _ _ _ _ _ _ _ _ _ _ _ _ _ _ _ _ _ _ _ _ _ _ _ _ _ _ _ _ _ _ _ _ _ _ _ _ _ _ _ _ _ _ _ _ _ _ _ _ _ _ _ _ _ _ _ _ _ _
  case pos =>
    have l1 : (0 : Int) < (m : Int) := by omega
    have l2 : pick % 2 = 0 := hsel.2
    have hm0 := hsel.1
    clear hsel
    obtain ⟨q, hq⟩ : ∃ q : Nat, pick / 2 = (q : Int) := ⟨(pick / 2).toNat, by omega⟩
    have hq2 : q ≤ 127 := by omega
    obtain ⟨j, hjm, hj⟩ : ∃ j : Nat, j < m ∧ (q : Int) % (m : Int) = (j : Int) := ⟨q % m, Nat.mod_lt _ hm0, by simp⟩
    have m1 : IntKind.u8.wrap (pick.tdiv 2) = (q : Int) := by rw [Int.tdiv_eq_ediv_of_nonneg p0, hq, IntKind.wrap_u8]; omega
    have m2 : IntKind.i64.wrap (q : Int) = (q : Int) := by rw [IntKind.wrap_i64]; omega
    have m3 : (q : Int).tmod (m : Int) = (j : Int) := by rw [Int.tmod_eq_emod_of_nonneg (by omega), hj]
    have m4 : ¬ m = 0 := by omega
    have l3 : (0 : Int) ≤ (j : Int) := by omega
    have l4 : (j : Int) < (m : Int) := by omega
    have hidl : (idAt flat j).length = 20 := idAt_length HG.out.ids.1 hjm
    obtain ⟨-, h0 | ⟨b, o, rfl, hrg⟩⟩ := HS.out.1.ids
    · omega
    have hidr := range_idAt_off (j := j) hrg
    clear hrg
    go_upto_region 6 with fail
    refine wp_region_list ?_
    refine wpList_value (v := .slice (some ⟨b, o, none⟩) m ic) (w' := w4) rfl (by go_simp) ?_
    simp only [Act.put, List.setIfInBounds_toArray, List.set_cons_zero, List.set_cons_succ]
    refine wpList_value (v := .int .u8 pick) (w' := w4) rfl (by go_simp) ?_
    simp only [Act.put, List.setIfInBounds_toArray, List.set_cons_zero, List.set_cons_succ]
    refine wpList_value (v := .int .u8 (q : Int)) (w' := w4) rfl (by go_simp) ?_
    simp only [Act.put, List.setIfInBounds_toArray, List.set_cons_zero, List.set_cons_succ]
    refine wpList_value (v := .int .i64 (q : Int)) (w' := w4) rfl (by go_simp) ?_
    simp only [Act.put, List.setIfInBounds_toArray, List.set_cons_zero, List.set_cons_succ]
    refine wpList_value (v := .slice (some ⟨b, o, none⟩) m ic) (w' := w4) rfl (by go_simp) ?_
    simp only [Act.put, List.setIfInBounds_toArray, List.set_cons_zero, List.set_cons_succ]
    refine wpList_value (v := .int .i64 (m : Int)) (w' := w4) rfl (by go_simp) ?_
    simp only [Act.put, List.setIfInBounds_toArray, List.set_cons_zero, List.set_cons_succ]
    refine wpList_value (v := .int .i64 (j : Int)) (w' := w4) rfl (by go_simp) ?_
    simp only [Act.put, List.setIfInBounds_toArray, List.set_cons_zero, List.set_cons_succ]
    refine wpList_value (v := .pointer (some ⟨b, o + j * 20, none⟩)) (w' := w4) rfl (by go_simp) ?_
    simp only [Act.put, List.setIfInBounds_toArray, List.set_cons_zero, List.set_cons_succ]
    refine wpList_value rfl (load22 rfl rfl hidl hidr) ?_
    simp only [Act.put, List.setIfInBounds_toArray, List.set_cons_zero, List.set_cons_succ]
    refine wpList_skip rfl (exec_store_mid 27 _ _ rfl (w.heap.size + 1 + 1 + 1) 0 (by8 (idAt flat j)).toArray rfl rfl (by show World.there _ _ _ (by8 (idAt flat j)).length; rw [by8_length, hidl]; exact HS.out.2) (by show _ = some (by8 (idAt flat j)).length; rw [by8_length, hidl]; exact Yba.size27) (all_oneCell_toArray (by8_one _))) ?_
    simp only [Act.put]
    change wpList _ _ _ _ _ (w4.setCells (w.heap.size + 1 + 1 + 1) 0 (by8 (idAt flat j)))
    have HM := hid (mid_me HS.out.1 HS.out.2 hidl (by omega) (by omega) (by omega) HG.out.valueB HG.out.ids)
    refine wpList_nil ?_
    generalize w4.setCells (w.heap.size + 1 + 1 + 1) 0 (by8 (idAt flat j)) = w5 at *
    clear hidr HS
    go_wp2
    exact tail5 w w5 key sig value flat (idAt flat j) kind id seq va (some ⟨b, o, none⟩) m _ _ _ reps vc ic HM.out HG.out.key HG.out.sig HG.out.k0 HG.out.k1 HG.out.i0 HG.out.i1 HG.out.q0 HG.out.q1 hml hidl hm hr9 HG.out.nil _ _ _ _ _ _ _ _ _ _ _ _ _ _ _ _ _ _ _ _ _ _ _ _ _ _ _ _ _ _ _ _ _ _ _ _ _ _ _ _ _ _ _ _ _ _ _ _ _ _ _ _ _ _ _ _ _ _ _ _ _ _ _ _ _ _ _ _ _ _ _ _ _ _ _ _ _ _ _ _ _ _ _ _ _ _ _ _ _ _ _ _ _ _ _ _ _ _ _ _ _ _ _ _ _ _ _ _ _ _ _ _ _ _ _ _ _ _ _ _ _ _ _ _ _ _ _ _ _ _ _ _ _ _ _ _ _ _ _ _ _ _ _ _ _ _ _ _ _ _ _ _ _ _ _ _ _ _ _ _ _ _ _ _ _ _ _ _ _ _ _ _ _ _ _ _ _ _ _ _ _ _ _ _ _ _ _ _ _ _ _ _ _ _ _ _ _ _ _ _ _ _ _ _ _ _ _ _ _ _ _ _ _ _ _ _ _ _ _ _ _ _ _ _ _ _ _ _ _ _ _ _ _ _ _ _ _ _ _ _ _ _ _ _ _ _ _ _ _ _ _ _ _ _ _ _ _ _ _ _ _ _ _ _ _ _ _ _ _ _ _ _ _ _ _ _ _ _ _ _ _ _ _ _ _ _ _ _ _ _ _ _ _ _ _ _ _ _ _ _ _ _ _ _ _ _ _ _ _ _ _ _ _ _ _

end Go.Proofs.Ybulkeero
