/- zzs6553creach (function 20), whole. -/
import Derived.Test.YbulkeeroZz
namespace Go.Proofs.Ybulkeero
open Go.RowKit Go.Joins

/-- One bit, as the mask sees it. -/
theorem mask_bit (x y r : Nat) (hr : r ≤ 7) : (x &&& 128 / 2 ^ r = y &&& 128 / 2 ^ r) ↔ x.testBit (7 - r) = y.testBit (7 - r) := by
  have e : 128 / 2 ^ r = 2 ^ (7 - r) := by
    have hr8 : r = 0 ∨ r = 1 ∨ r = 2 ∨ r = 3 ∨ r = 4 ∨ r = 5 ∨ r = 6 ∨ r = 7 := by omega
    rcases hr8 with rfl | rfl | rfl | rfl | rfl | rfl | rfl | rfl <;> rfl
  rw [e]
  constructor
  · intro h
    have := congrArg (fun z => z.testBit (7 - r)) h
    simpa [Nat.testBit_and, Nat.testBit_two_pow] using this
  · intro h
    apply Nat.eq_of_testBit_eq
    intro j
    rw [Nat.testBit_and, Nat.testBit_and, Nat.testBit_two_pow]
    by_cases hj : 7 - r = j
    · rw [← hj, h]
    · simp [hj]

theorem bne_cast (a b : Nat) : ((a : Int) != (b : Int)) = !decide (a = b) := by
  by_cases h : a = b
  · subst h; simp
  · have h2 : ¬ (a : Int) = (b : Int) := by omega
    simp [h, h2]
/-- What the first loop reads. -/
structure ZAt (kb fb rb : Nat) (key far : List Int) (W : World) (w : World) : Prop where
  keyR : w.rangeAt kb 0 (by8 key)
  farR : w.rangeAt fb 0 (by8 far)
  res : w.there rb 0 21
  below : Below W.heap.size W w
  size : W.heap.size ≤ w.heap.size
theorem ZAt.drew {kb fb rb : Nat} {key far : List Int} {W w : World} (h : ZAt kb fb rb key far W w) : ZAt kb fb rb key far W w.drew := ⟨(World.rangeAt_drew _ _ _ _).2 h.keyR, (World.rangeAt_drew _ _ _ _).2 h.farR, (World.there_drew _ _ _ _).2 h.res, h.below.drew, h.size⟩
theorem zz_start (w : World) (key far : List Int) (Z : Array Value) (hZ : Z.size = 21) : ZAt w.heap.size (w.heap.size + 1) (w.heap.size + 1 + 1) key far w (((w.alloc (.cells (by8 key).toArray 27)).alloc (.cells (by8 far).toArray 27)).alloc (.cells Z 139)) := by
  refine ⟨World.rangeAt_alloc (World.rangeAt_alloc (range_new w (by8 key) 27) _) _, ?_, ?_, (((Below.refl _ w).alloc (Nat.le_refl _) _).alloc (by simp) _).alloc (by simp; omega) _, by simp; omega⟩
  · have := range_new (w.alloc (.cells (by8 key).toArray 27)) (by8 far) 27
    rw [show (w.alloc (.cells (by8 key).toArray 27)).heap.size = w.heap.size + 1 by simp] at this
    exact World.rangeAt_alloc this _
  · have := there_new ((w.alloc (.cells (by8 key).toArray 27)).alloc (.cells (by8 far).toArray 27)) Z 139 21 hZ
    rwa [show ((w.alloc (.cells (by8 key).toArray 27)).alloc (.cells (by8 far).toArray 27)).heap.size = w.heap.size + 1 + 1 by simp] at this

set_option maxHeartbeats 1000000 in
set_option maxRecDepth 20000 in
theorem zz_true (w : World) (key far : List Int) :
    Calls Yba.prog 20 #[.agg (by8 key).toArray, .agg (by8 far).toArray, .bool true] w fun e w' => e = .returned (rv (rdep key far true) (rpre key far true)) ∧ Below w.heap.size w w' := by
  have HZ0 := hid (zz_start w key far #[.int .i64 0, .int .u8 0, .int .u8 0, .int .u8 0, .int .u8 0, .int .u8 0, .int .u8 0, .int .u8 0, .int .u8 0, .int .u8 0, .int .u8 0, .int .u8 0, .int .u8 0, .int .u8 0, .int .u8 0, .int .u8 0, .int .u8 0, .int .u8 0, .int .u8 0, .int .u8 0, .int .u8 0] rfl)
  go_enter Yba.func20, Yba.ntmps20
  change (Code.seq (Code.region 0 #[{ dst := some 3, op := Op.box 27 (Operand.tmp 0), type := 0, pos := "zz_law_s6553c.go:24", after := #[], guard := none }, { dst := some 4, op := Op.box 27 (Operand.tmp 1), type := 0, pos := "zz_law_s6553c.go:24", after := #[], guard := none }, { dst := some 6, op := Op.alloc 139, type := 0, pos := "zz_law_s6553c.go:24", after := #[], guard := none }] false) (Code.seq (Code.seq (Code.region 1 #[{ dst := some 12, op := Op.move (Operand.tmp 2), type := 4, pos := "zz_law_s6553c.go:25", after := #[], guard := none }] false) (Code.cond (Operand.tmp 12) ((Code.region 2 #[{ dst := some 13, op := Op.build 139 #[], type := 139, pos := "zz_law_s6553c.go:26", after := #[], guard := none }, { dst := none, op := Op.store 139 (Operand.tmp 6) (Operand.tmp 13), type := 0, pos := "zz_law_s6553c.go:26", after := #[{ on := 0, ground := Ground.data }, { on := 0, ground := Ground.phase }], guard := none }] false).seq Code.ret) Code.skip)) (Code.seq (Code.region 3 #[{ dst := some 7, op := Op.assign (Operand.const (Value.int IntKind.i64 0)), type := 3, pos := "zz_law_s6553c.go:28", after := #[], guard := none }] false) (Code.seq (Code.block 0 (((Code.region 4 #[{ dst := some 14, op := Op.move (Operand.tmp 7), type := 3, pos := "zz_law_s6553c.go:29", after := #[], guard := none }, { dst := some 15, op := Op.binOp BinOp.lss 3 (Operand.tmp 14) (Operand.const (Value.int IntKind.i64 160)) 3, type := 4, pos := "zz_law_s6553c.go:29", after := #[{ on := 0, ground := Ground.data }], guard := none }] false).seq (Code.cond (Operand.tmp 15) Code.skip (Code.exit 0))).seq (Code.block 1 ((Code.region 5 #[{ dst := some 16, op := Op.move (Operand.tmp 7), type := 3, pos := "zz_law_s6553c.go:30", after := #[], guard := none }, { dst := some 17, op := Op.binOp BinOp.rem 3 (Operand.tmp 16) (Operand.const (Value.int IntKind.i64 8)) 3, type := 3, pos := "zz_law_s6553c.go:30", after := #[{ on := 0, ground := Ground.data }], guard := none }, { dst := some 18, op := Op.convert 3 106 (Operand.tmp 17), type := 106, pos := "zz_law_s6553c.go:30", after := #[{ on := 1, ground := Ground.data }], guard := none }, { dst := some 19, op := Op.binOp BinOp.shr 5 (Operand.const (Value.int IntKind.u8 128)) (Operand.tmp 18) 106, type := 5, pos := "zz_law_s6553c.go:30", after := #[{ on := 2, ground := Ground.data }], guard := none }, { dst := some 8, op := Op.assign (Operand.tmp 19), type := 5, pos := "zz_law_s6553c.go:30", after := #[{ on := 3, ground := Ground.data }, { on := 0, ground := Ground.phase }, { on := 1, ground := Ground.phase }, { on := 2, ground := Ground.phase }, { on := 3, ground := Ground.phase }], guard := none }] false).seq (((Code.region 6 #[{ dst := some 20, op := Op.move (Operand.tmp 7), type := 3, pos := "zz_law_s6553c.go:31", after := #[], guard := none }, { dst := some 21, op := Op.binOp BinOp.quo 3 (Operand.tmp 20) (Operand.const (Value.int IntKind.i64 8)) 3, type := 3, pos := "zz_law_s6553c.go:31", after := #[{ on := 0, ground := Ground.data }], guard := none }, { dst := some 22, op := Op.indexAddr 27 (Operand.tmp 3) (Operand.tmp 21), type := 0, pos := "zz_law_s6553c.go:31", after := #[{ on := 1, ground := Ground.data }], guard := none }, { dst := some 23, op := Op.load 5 (Operand.tmp 22), type := 5, pos := "zz_law_s6553c.go:31", after := #[{ on := 2, ground := Ground.data }], guard := none }, { dst := some 24, op := Op.move (Operand.tmp 8), type := 5, pos := "zz_law_s6553c.go:31", after := #[], guard := none }, { dst := some 25, op := Op.binOp BinOp.and 5 (Operand.tmp 23) (Operand.tmp 24) 5, type := 5, pos := "zz_law_s6553c.go:31", after := #[{ on := 3, ground := Ground.data }, { on := 4, ground := Ground.data }], guard := none }, { dst := some 26, op := Op.move (Operand.tmp 7), type := 3, pos := "zz_law_s6553c.go:31", after := #[], guard := none }, { dst := some 27, op := Op.binOp BinOp.quo 3 (Operand.tmp 26) (Operand.const (Value.int IntKind.i64 8)) 3, type := 3, pos := "zz_law_s6553c.go:31", after := #[{ on := 6, ground := Ground.data }], guard := none }, { dst := some 28, op := Op.indexAddr 27 (Operand.tmp 4) (Operand.tmp 27), type := 0, pos := "zz_law_s6553c.go:31", after := #[{ on := 7, ground := Ground.data }], guard := none }, { dst := some 29, op := Op.load 5 (Operand.tmp 28), type := 5, pos := "zz_law_s6553c.go:31", after := #[{ on := 8, ground := Ground.data }], guard := none }, { dst := some 30, op := Op.move (Operand.tmp 8), type := 5, pos := "zz_law_s6553c.go:31", after := #[], guard := none }, { dst := some 31, op := Op.binOp BinOp.and 5 (Operand.tmp 29) (Operand.tmp 30) 5, type := 5, pos := "zz_law_s6553c.go:31", after := #[{ on := 9, ground := Ground.data }, { on := 10, ground := Ground.data }], guard := none }, { dst := some 32, op := Op.binOp BinOp.neq 5 (Operand.tmp 25) (Operand.tmp 31) 5, type := 4, pos := "zz_law_s6553c.go:31", after := #[{ on := 5, ground := Ground.data }, { on := 11, ground := Ground.data }], guard := none }] true).seq (Code.cond (Operand.tmp 32) (Code.exit 0) Code.skip)).seq (Code.region 7 #[{ dst := some 33, op := Op.move (Operand.tmp 7), type := 3, pos := "zz_law_s6553c.go:34", after := #[], guard := none }, { dst := some 34, op := Op.binOp BinOp.add 3 (Operand.tmp 33) (Operand.const (Value.int IntKind.i64 1)) 3, type := 3, pos := "zz_law_s6553c.go:34", after := #[{ on := 0, ground := Ground.data }], guard := none }, { dst := some 7, op := Op.assign (Operand.tmp 34), type := 3, pos := "zz_law_s6553c.go:34", after := #[{ on := 1, ground := Ground.data }, { on := 0, ground := Ground.phase }, { on := 1, ground := Ground.phase }], guard := none }] false))))).loop) (zzC 4))))).wp _ _ _ _
  go_upto_region 2 with fail
  rename_i K2 hK2
  refine wp_region_list ?_
  refine wpList_value rfl (exec_build rfl (build139z _) (by simp only [List.map_toArray, List.map_nil])) ?_
  simp only [Act.put, List.setIfInBounds_toArray, List.set_cons_zero, List.set_cons_succ]
  refine wpList_skip rfl (exec_store139 rfl rfl rfl (by simp) HZ0.out.res) ?_
  simp only [Act.put]
  generalize ((w.alloc (.cells (by8 key).toArray 27)).alloc (.cells (by8 far).toArray 27)).alloc (.cells #[.int .i64 0, .int .u8 0, .int .u8 0, .int .u8 0, .int .u8 0, .int .u8 0, .int .u8 0, .int .u8 0, .int .u8 0, .int .u8 0, .int .u8 0, .int .u8 0, .int .u8 0, .int .u8 0, .int .u8 0, .int .u8 0, .int .u8 0, .int .u8 0, .int .u8 0, .int .u8 0, .int .u8 0] 139) = W1 at *
  have HZ : Hid ((W1.setCells (w.heap.size + 1 + 1) 0 (rcells 0 (List.replicate 20 0))).rangeAt (w.heap.size + 1 + 1) 0 (rcells 0 (List.replicate 20 0)) ∧ Below w.heap.size w (W1.setCells (w.heap.size + 1 + 1) 0 (rcells 0 (List.replicate 20 0)))) := ⟨World.rangeAt_setCells_same _ _ _ _ (by rw [rcells_length, List.length_replicate]; exact HZ0.out.res), below_setCells (by omega) _ _ _ HZ0.out.below⟩
  clear HZ0
  generalize W1.setCells (w.heap.size + 1 + 1) 0 (rcells 0 (List.replicate 20 0)) = WG at *
  refine wpList_nil (hK2 _ _ ?_)
  clear hK2 K2
  go_wp2
  exact bodyPost_ret (v := rv 0 (List.replicate 20 0)) (results_cell_mid (P := Yba.prog) (fn := Yba.f20) (p := 6) (ty := 139) rfl _ _ (w.heap.size + 1 + 1) 0 _ _ rfl HZ.out.1 Yba.underlying139 rfl (by rw [rcells_length, List.length_replicate]; exact Yba.size139)) rfl ⟨by rw [show rdep key far true = 0 from rfl, show rpre key far true = List.replicate 20 0 from pre_zero key], HZ.out.2⟩

set_option maxHeartbeats 1000000 in
set_option maxRecDepth 20000 in
theorem zz_false (w : World) (key far : List Int) (D : Nat) (hD : IsDep 160 key far D) (lk : key.length = 20) (lf : far.length = 20) (hk : Byt key) (hf : Byt far) :
    Calls Yba.prog 20 #[.agg (by8 key).toArray, .agg (by8 far).toArray, .bool false] w fun e w' => e = .returned (rv D (pre key D)) ∧ Below w.heap.size w w' := by
  have HZ0 := hid (zz_start w key far #[.int .i64 0, .int .u8 0, .int .u8 0, .int .u8 0, .int .u8 0, .int .u8 0, .int .u8 0, .int .u8 0, .int .u8 0, .int .u8 0, .int .u8 0, .int .u8 0, .int .u8 0, .int .u8 0, .int .u8 0, .int .u8 0, .int .u8 0, .int .u8 0, .int .u8 0, .int .u8 0, .int .u8 0] rfl)
  have HK := hid hk
  have HF := hid hf
  have HD := hid hD
  clear hk hf hD
  go_enter Yba.func20, Yba.ntmps20
  change (Code.seq (Code.region 0 #[{ dst := some 3, op := Op.box 27 (Operand.tmp 0), type := 0, pos := "zz_law_s6553c.go:24", after := #[], guard := none }, { dst := some 4, op := Op.box 27 (Operand.tmp 1), type := 0, pos := "zz_law_s6553c.go:24", after := #[], guard := none }, { dst := some 6, op := Op.alloc 139, type := 0, pos := "zz_law_s6553c.go:24", after := #[], guard := none }] false) (Code.seq (Code.seq (Code.region 1 #[{ dst := some 12, op := Op.move (Operand.tmp 2), type := 4, pos := "zz_law_s6553c.go:25", after := #[], guard := none }] false) (Code.cond (Operand.tmp 12) ((Code.region 2 #[{ dst := some 13, op := Op.build 139 #[], type := 139, pos := "zz_law_s6553c.go:26", after := #[], guard := none }, { dst := none, op := Op.store 139 (Operand.tmp 6) (Operand.tmp 13), type := 0, pos := "zz_law_s6553c.go:26", after := #[{ on := 0, ground := Ground.data }, { on := 0, ground := Ground.phase }], guard := none }] false).seq Code.ret) Code.skip)) (Code.seq (Code.region 3 #[{ dst := some 7, op := Op.assign (Operand.const (Value.int IntKind.i64 0)), type := 3, pos := "zz_law_s6553c.go:28", after := #[], guard := none }] false) (Code.seq (Code.block 0 (((Code.region 4 #[{ dst := some 14, op := Op.move (Operand.tmp 7), type := 3, pos := "zz_law_s6553c.go:29", after := #[], guard := none }, { dst := some 15, op := Op.binOp BinOp.lss 3 (Operand.tmp 14) (Operand.const (Value.int IntKind.i64 160)) 3, type := 4, pos := "zz_law_s6553c.go:29", after := #[{ on := 0, ground := Ground.data }], guard := none }] false).seq (Code.cond (Operand.tmp 15) Code.skip (Code.exit 0))).seq (Code.block 1 ((Code.region 5 #[{ dst := some 16, op := Op.move (Operand.tmp 7), type := 3, pos := "zz_law_s6553c.go:30", after := #[], guard := none }, { dst := some 17, op := Op.binOp BinOp.rem 3 (Operand.tmp 16) (Operand.const (Value.int IntKind.i64 8)) 3, type := 3, pos := "zz_law_s6553c.go:30", after := #[{ on := 0, ground := Ground.data }], guard := none }, { dst := some 18, op := Op.convert 3 106 (Operand.tmp 17), type := 106, pos := "zz_law_s6553c.go:30", after := #[{ on := 1, ground := Ground.data }], guard := none }, { dst := some 19, op := Op.binOp BinOp.shr 5 (Operand.const (Value.int IntKind.u8 128)) (Operand.tmp 18) 106, type := 5, pos := "zz_law_s6553c.go:30", after := #[{ on := 2, ground := Ground.data }], guard := none }, { dst := some 8, op := Op.assign (Operand.tmp 19), type := 5, pos := "zz_law_s6553c.go:30", after := #[{ on := 3, ground := Ground.data }, { on := 0, ground := Ground.phase }, { on := 1, ground := Ground.phase }, { on := 2, ground := Ground.phase }, { on := 3, ground := Ground.phase }], guard := none }] false).seq (((Code.region 6 #[{ dst := some 20, op := Op.move (Operand.tmp 7), type := 3, pos := "zz_law_s6553c.go:31", after := #[], guard := none }, { dst := some 21, op := Op.binOp BinOp.quo 3 (Operand.tmp 20) (Operand.const (Value.int IntKind.i64 8)) 3, type := 3, pos := "zz_law_s6553c.go:31", after := #[{ on := 0, ground := Ground.data }], guard := none }, { dst := some 22, op := Op.indexAddr 27 (Operand.tmp 3) (Operand.tmp 21), type := 0, pos := "zz_law_s6553c.go:31", after := #[{ on := 1, ground := Ground.data }], guard := none }, { dst := some 23, op := Op.load 5 (Operand.tmp 22), type := 5, pos := "zz_law_s6553c.go:31", after := #[{ on := 2, ground := Ground.data }], guard := none }, { dst := some 24, op := Op.move (Operand.tmp 8), type := 5, pos := "zz_law_s6553c.go:31", after := #[], guard := none }, { dst := some 25, op := Op.binOp BinOp.and 5 (Operand.tmp 23) (Operand.tmp 24) 5, type := 5, pos := "zz_law_s6553c.go:31", after := #[{ on := 3, ground := Ground.data }, { on := 4, ground := Ground.data }], guard := none }, { dst := some 26, op := Op.move (Operand.tmp 7), type := 3, pos := "zz_law_s6553c.go:31", after := #[], guard := none }, { dst := some 27, op := Op.binOp BinOp.quo 3 (Operand.tmp 26) (Operand.const (Value.int IntKind.i64 8)) 3, type := 3, pos := "zz_law_s6553c.go:31", after := #[{ on := 6, ground := Ground.data }], guard := none }, { dst := some 28, op := Op.indexAddr 27 (Operand.tmp 4) (Operand.tmp 27), type := 0, pos := "zz_law_s6553c.go:31", after := #[{ on := 7, ground := Ground.data }], guard := none }, { dst := some 29, op := Op.load 5 (Operand.tmp 28), type := 5, pos := "zz_law_s6553c.go:31", after := #[{ on := 8, ground := Ground.data }], guard := none }, { dst := some 30, op := Op.move (Operand.tmp 8), type := 5, pos := "zz_law_s6553c.go:31", after := #[], guard := none }, { dst := some 31, op := Op.binOp BinOp.and 5 (Operand.tmp 29) (Operand.tmp 30) 5, type := 5, pos := "zz_law_s6553c.go:31", after := #[{ on := 9, ground := Ground.data }, { on := 10, ground := Ground.data }], guard := none }, { dst := some 32, op := Op.binOp BinOp.neq 5 (Operand.tmp 25) (Operand.tmp 31) 5, type := 4, pos := "zz_law_s6553c.go:31", after := #[{ on := 5, ground := Ground.data }, { on := 11, ground := Ground.data }], guard := none }] true).seq (Code.cond (Operand.tmp 32) (Code.exit 0) Code.skip)).seq (Code.region 7 #[{ dst := some 33, op := Op.move (Operand.tmp 7), type := 3, pos := "zz_law_s6553c.go:34", after := #[], guard := none }, { dst := some 34, op := Op.binOp BinOp.add 3 (Operand.tmp 33) (Operand.const (Value.int IntKind.i64 1)) 3, type := 3, pos := "zz_law_s6553c.go:34", after := #[{ on := 0, ground := Ground.data }], guard := none }, { dst := some 7, op := Op.assign (Operand.tmp 34), type := 3, pos := "zz_law_s6553c.go:34", after := #[{ on := 1, ground := Ground.data }, { on := 0, ground := Ground.phase }, { on := 1, ground := Ground.phase }], guard := none }] false))))).loop) (zzC 4))))).wp _ _ _ _
  go_wp2
  go_loopw [7] (fun v wr => ∃ k : Nat, k ≤ 160 ∧ v = .int .i64 (k : Int) ∧ Hid (ZAt w.heap.size (w.heap.size + 1) (w.heap.size + 1 + 1) key far w wr ∧ ∀ i, i < k → bt key i = bt far i)) (fun v _ => 160 - (intOf v).toNat)
  case atStart => exact ⟨0, Nat.zero_le _, by rfl, ⟨HZ0.out, fun i hi => absurd hi (Nat.not_lt_zero _)⟩⟩
  case round =>
    clear HZ0
    obtain ⟨k, hk, rfl, HP⟩ := hrel
    by_cases hk160 : k < 160
    case neg =>
      obtain rfl : k = 160 := by omega
      obtain rfl : D = 160 := HD.out.unique ⟨Nat.le_refl _, HP.out.2, fun h => absurd h (Nat.lt_irrefl _)⟩
      go_wp2
      exact zz_tail w wr key w.heap.size (w.heap.size + 1 + 1) 160 lk HK.out (Nat.le_refl _) HP.out.1.keyR HP.out.1.res (by omega) HP.out.1.below HP.out.1.size _ _ _ _ _ _ _ _ _ _ _ _ _ _ _ _ _ _ _ _ _ _ _ _ _ _ _ _ _ _ _ _ _ _ _ _ _ _ _ _ _ _ _ _ _ _ _ _ _ _ _ _ _ _ _ _
    case pos =>
      have j1 : (k : Int) < 160 := by omega
      obtain ⟨q, hq⟩ : ∃ q, q = k / 8 := ⟨_, rfl⟩
      obtain ⟨r, hr⟩ : ∃ r, r = k % 8 := ⟨_, rfl⟩
      have q1 : (k : Int).tdiv 8 = (q : Int) := by rw [Int.tdiv_eq_ediv_of_nonneg (by omega)]; omega
      have q2 : (k : Int).tmod 8 = (r : Int) := by rw [Int.tmod_eq_emod_of_nonneg (by omega)]; omega
      have r7 : r ≤ 7 := by omega
      have z0 : (0 : Int) ≤ (q : Int) := by omega
      have z1 : (q : Int) < 20 := by omega
      have w1 : IntKind.u64.wrap (r : Int) = (r : Int) := wrap_small r (by omega)
      have w2 : IntKind.i64.wrap (q : Int) = (q : Int) := wrap_small' q (by omega)
      have HQ := hid hq
      have HR := hid hr
      have HW := hid (wrap_succ' k (by omega))
      obtain ⟨Bm, hBm⟩ : ∃ B : Nat, B = 128 / 2 ^ r := ⟨_, rfl⟩
      have hB8 : Bm < 256 := by rw [hBm]; exact Nat.lt_of_le_of_lt (Nat.div_le_self _ _) (by decide)
      have hBH := hid hBm
      clear hq hr hBm
      have hkg : (by8 key)[q]? = some (.int .u8 (key.getD q 0)) := byte_at (by omega)
      have hfg : (by8 far)[q]? = some (.int .u8 (far.getD q 0)) := byte_at (by omega)
      have hkb := byte_in HK.out q
      have hfb := byte_in HF.out q
      obtain ⟨ka, hka⟩ : ∃ ka : Nat, ka = (key.getD q 0).toNat &&& Bm := ⟨_, rfl⟩
      obtain ⟨fa, hfa⟩ : ∃ fa : Nat, fa = (far.getD q 0).toNat &&& Bm := ⟨_, rfl⟩
      have hand : bits .and .u8 (key.getD q 0) (Bm : Int) = (ka : Int) := by rw [u8_and _ _ hkb.1 (by omega) (by omega) (by omega), Int.toNat_natCast, hka]
      have hanf : bits .and .u8 (far.getD q 0) (Bm : Int) = (fa : Int) := by rw [u8_and _ _ hfb.1 (by omega) (by omega) (by omega), Int.toNat_natCast, hfa]
      have hbt : ka = fa ↔ bt key k = bt far k := by
        rw [hka, hfa, hBH.out, mask_bit _ _ r r7]
        unfold bt
        rw [← HQ.out, ← HR.out]
      have HBT := hid hbt
      have hne := bne_cast ka fa
      clear hka hfa hbt
      generalize key.getD q 0 = kq at *
      generalize far.getD q 0 = fq at *
      go_upto_region 5 with fail
      rename_i K6 hK6
      refine wp_region_list ?_
      refine wpList_same (.int .i64 (k : Int)) rfl (by go_simp) ?_
      simp only [Act.put, List.setIfInBounds_toArray, List.set_cons_zero, List.set_cons_succ]
      refine wpList_same (.int .i64 (r : Int)) rfl (by go_simp) ?_
      simp only [Act.put, List.setIfInBounds_toArray, List.set_cons_zero, List.set_cons_succ]
      refine wpList_same (.int .u64 (r : Int)) rfl (by go_simp) ?_
      simp only [Act.put, List.setIfInBounds_toArray, List.set_cons_zero, List.set_cons_succ]
      refine wpList_same (.int .u8 (Bm : Int)) rfl (by rw [hBH.out]; exact shr_exec rfl rfl rfl r7) ?_
      simp only [Act.put, List.setIfInBounds_toArray, List.set_cons_zero, List.set_cons_succ]
      refine wpList_same (.int .u8 (Bm : Int)) rfl (by go_simp) ?_
      simp only [Act.put, List.setIfInBounds_toArray, List.set_cons_zero, List.set_cons_succ]
      refine wpList_nil (hK6 _ _ (wp_seq (wp_seq ?_)))
      clear hK6 K6
      refine beginE [] (fun w' : World => w'.rangeAt w.heap.size 0 (by8 key) ∧ w'.rangeAt (w.heap.size + 1) 0 (by8 far)) (by kernel_rfl) ⟨(World.rangeAt_drew _ _ _ _).2 HP.out.1.keyR, (World.rangeAt_drew _ _ _ _).2 HP.out.1.farR⟩ (fun hHeld => ?_)
      refine takeE 0 { dst := some 20, op := Op.move (Operand.tmp 7), type := 3, pos := "zz_law_s6553c.go:31", after := #[], guard := none } (.int .i64 (k : Int)) rfl (by kernel_rfl) (by kernel_rfl) (by kernel_rfl) (by kernel_rfl) (fun _ _ _ h => h) (Or.inl ⟨by rfl, by intro w hSw; clear hSw; go_simp⟩) hHeld ?_
      simp only [Act.put, List.setIfInBounds_toArray, List.set_cons_zero, List.set_cons_succ]
      refine takeE 1 { dst := some 21, op := Op.binOp BinOp.quo 3 (Operand.tmp 20) (Operand.const (Value.int IntKind.i64 8)) 3, type := 3, pos := "zz_law_s6553c.go:31", after := #[{ on := 0, ground := Ground.data }], guard := none } (.int .i64 (q : Int)) rfl (by kernel_rfl) (by kernel_rfl) (by kernel_rfl) (by kernel_rfl) (fun _ _ _ h => h) (Or.inl ⟨by rfl, by intro w hSw; clear hSw; go_simp⟩) hHeld ?_
      simp only [Act.put, List.setIfInBounds_toArray, List.set_cons_zero, List.set_cons_succ]
      refine takeE 2 { dst := some 22, op := Op.indexAddr 27 (Operand.tmp 3) (Operand.tmp 21), type := 0, pos := "zz_law_s6553c.go:31", after := #[{ on := 1, ground := Ground.data }], guard := none } (.pointer (some ⟨w.heap.size, q, none⟩)) rfl (by kernel_rfl) (by kernel_rfl) (by kernel_rfl) (by kernel_rfl) (fun _ _ _ h => h) (Or.inl ⟨by rfl, by intro w hSw; clear hSw; go_simp⟩) hHeld ?_
      simp only [Act.put, List.setIfInBounds_toArray, List.set_cons_zero, List.set_cons_succ]
      refine takeE 3 { dst := some 23, op := Op.load 5 (Operand.tmp 22), type := 5, pos := "zz_law_s6553c.go:31", after := #[{ on := 2, ground := Ground.data }], guard := none } (.int .u8 kq) rfl (by kernel_rfl) (by kernel_rfl) (by kernel_rfl) (by kernel_rfl) (fun _ _ _ h => h) (Or.inl ⟨by rfl, by intro w' hSw; have hSc := hSw.1 q _ hkg; rw [Nat.zero_add] at hSc; clear hSw; go_simp⟩) hHeld ?_
      simp only [Act.put, List.setIfInBounds_toArray, List.set_cons_zero, List.set_cons_succ]
      refine takeE 4 { dst := some 24, op := Op.move (Operand.tmp 8), type := 5, pos := "zz_law_s6553c.go:31", after := #[], guard := none } (.int .u8 (Bm : Int)) rfl (by kernel_rfl) (by kernel_rfl) (by kernel_rfl) (by kernel_rfl) (fun _ _ _ h => h) (Or.inl ⟨by rfl, by intro w hSw; clear hSw; go_simp⟩) hHeld ?_
      simp only [Act.put, List.setIfInBounds_toArray, List.set_cons_zero, List.set_cons_succ]
      refine takeE 5 { dst := some 25, op := Op.binOp BinOp.and 5 (Operand.tmp 23) (Operand.tmp 24) 5, type := 5, pos := "zz_law_s6553c.go:31", after := #[{ on := 3, ground := Ground.data }, { on := 4, ground := Ground.data }], guard := none } (.int .u8 (ka : Int)) rfl (by kernel_rfl) (by kernel_rfl) (by kernel_rfl) (by kernel_rfl) (fun _ _ _ h => h) (Or.inl ⟨by rfl, by intro w hSw; clear hSw; go_simp⟩) hHeld ?_
      simp only [Act.put, List.setIfInBounds_toArray, List.set_cons_zero, List.set_cons_succ]
      refine takeE 6 { dst := some 26, op := Op.move (Operand.tmp 7), type := 3, pos := "zz_law_s6553c.go:31", after := #[], guard := none } (.int .i64 (k : Int)) rfl (by kernel_rfl) (by kernel_rfl) (by kernel_rfl) (by kernel_rfl) (fun _ _ _ h => h) (Or.inl ⟨by rfl, by intro w hSw; clear hSw; go_simp⟩) hHeld ?_
      simp only [Act.put, List.setIfInBounds_toArray, List.set_cons_zero, List.set_cons_succ]
      refine takeE 7 { dst := some 27, op := Op.binOp BinOp.quo 3 (Operand.tmp 26) (Operand.const (Value.int IntKind.i64 8)) 3, type := 3, pos := "zz_law_s6553c.go:31", after := #[{ on := 6, ground := Ground.data }], guard := none } (.int .i64 (q : Int)) rfl (by kernel_rfl) (by kernel_rfl) (by kernel_rfl) (by kernel_rfl) (fun _ _ _ h => h) (Or.inl ⟨by rfl, by intro w hSw; clear hSw; go_simp⟩) hHeld ?_
      simp only [Act.put, List.setIfInBounds_toArray, List.set_cons_zero, List.set_cons_succ]
      refine takeE 8 { dst := some 28, op := Op.indexAddr 27 (Operand.tmp 4) (Operand.tmp 27), type := 0, pos := "zz_law_s6553c.go:31", after := #[{ on := 7, ground := Ground.data }], guard := none } (.pointer (some ⟨w.heap.size + 1, q, none⟩)) rfl (by kernel_rfl) (by kernel_rfl) (by kernel_rfl) (by kernel_rfl) (fun _ _ _ h => h) (Or.inl ⟨by rfl, by intro w hSw; clear hSw; go_simp⟩) hHeld ?_
      simp only [Act.put, List.setIfInBounds_toArray, List.set_cons_zero, List.set_cons_succ]
      refine takeE 9 { dst := some 29, op := Op.load 5 (Operand.tmp 28), type := 5, pos := "zz_law_s6553c.go:31", after := #[{ on := 8, ground := Ground.data }], guard := none } (.int .u8 fq) rfl (by kernel_rfl) (by kernel_rfl) (by kernel_rfl) (by kernel_rfl) (fun _ _ _ h => h) (Or.inl ⟨by rfl, by intro w' hSw; have hSc := hSw.2 q _ hfg; rw [Nat.zero_add] at hSc; clear hSw; go_simp⟩) hHeld ?_
      simp only [Act.put, List.setIfInBounds_toArray, List.set_cons_zero, List.set_cons_succ]
      refine takeE 10 { dst := some 30, op := Op.move (Operand.tmp 8), type := 5, pos := "zz_law_s6553c.go:31", after := #[], guard := none } (.int .u8 (Bm : Int)) rfl (by kernel_rfl) (by kernel_rfl) (by kernel_rfl) (by kernel_rfl) (fun _ _ _ h => h) (Or.inl ⟨by rfl, by intro w hSw; clear hSw; go_simp⟩) hHeld ?_
      simp only [Act.put, List.setIfInBounds_toArray, List.set_cons_zero, List.set_cons_succ]
      refine takeE 11 { dst := some 31, op := Op.binOp BinOp.and 5 (Operand.tmp 29) (Operand.tmp 30) 5, type := 5, pos := "zz_law_s6553c.go:31", after := #[{ on := 9, ground := Ground.data }, { on := 10, ground := Ground.data }], guard := none } (.int .u8 (fa : Int)) rfl (by kernel_rfl) (by kernel_rfl) (by kernel_rfl) (by kernel_rfl) (fun _ _ _ h => h) (Or.inl ⟨by rfl, by intro w hSw; clear hSw; go_simp⟩) hHeld ?_
      simp only [Act.put, List.setIfInBounds_toArray, List.set_cons_zero, List.set_cons_succ]
      refine takeE 12 { dst := some 32, op := Op.binOp BinOp.neq 5 (Operand.tmp 25) (Operand.tmp 31) 5, type := 4, pos := "zz_law_s6553c.go:31", after := #[{ on := 5, ground := Ground.data }, { on := 11, ground := Ground.data }], guard := none } (.bool (!decide (ka = fa))) rfl (by kernel_rfl) (by kernel_rfl) (by kernel_rfl) (by kernel_rfl) (fun _ _ _ h => h) (Or.inl ⟨by rfl, by intro w hSw; clear hSw; go_simp⟩) hHeld ?_
      simp only [Act.put, List.setIfInBounds_toArray, List.set_cons_zero, List.set_cons_succ]
      refine doneE (by kernel_rfl) ?_ _
      have HPd := hid (And.intro HP.out.1.drew HP.out.2)
      clear hHeld HP hand hanf hkg hfg hne
      generalize wr.drew = W2 at *
      by_cases hkf : ka = fa
      case neg =>
        obtain rfl : D = k := HD.out.unique ⟨by omega, HPd.out.2, fun _ e => hkf (HBT.out.2 e)⟩
        refine wp_cond_true (by show Value.bool (!decide (ka = fa)) = Value.bool true; simp [hkf]) ?_
        go_wp2
        exact zz_tail w W2 key w.heap.size (w.heap.size + 1 + 1) D lk HK.out (by omega) HPd.out.1.keyR HPd.out.1.res (by omega) HPd.out.1.below HPd.out.1.size _ _ _ _ _ _ _ _ _ _ _ _ _ _ _ _ _ _ _ _ _ _ _ _ _ _ _ _ _ _ _ _ _ _ _ _ _ _ _ _ _ _ _ _ _ _ _ _ _ _ _ _ _ _ _ _
      case pos =>
        refine wp_cond_false (by show Value.bool (!decide (ka = fa)) = Value.bool false; simp [hkf]) ?_
        have HN : Hid (ZAt w.heap.size (w.heap.size + 1) (w.heap.size + 1 + 1) key far w W2 ∧ ∀ i, i < k + 1 → bt key i = bt far i) := ⟨HPd.out.1, fun i hi => by
          rcases Nat.lt_or_ge i k with h1 | h1
          · exact HPd.out.2 i h1
          · rw [show i = k by omega]; exact HBT.out.1 hkf⟩
        have hwk := HW.out
        go_wp2
        clear hwk
        go_roundw
        case rel => exact ⟨k + 1, by omega, by go_num, HN⟩
        case measure => simp [intOf]; omega

theorem zz_any (w : World) (key far : List Int) (whole : Bool) (lk : key.length = 20) (lf : far.length = 20) (hk : Byt key) (hf : Byt far) :
    Calls Yba.prog 20 #[.agg (by8 key).toArray, .agg (by8 far).toArray, .bool whole] w fun e w' => e = .returned (rv (rdep key far whole) (rpre key far whole)) ∧ Below w.heap.size w w' := by
  cases whole with
  | false => exact zz_false w key far (cpl key far) (cpl_dep hk hf lk lf) lk lf hk hf
  | true => exact zz_true w key far

end Go.Proofs.Ybulkeero
