/- identity.CommonPrefixLen (function 42). -/
import Derived.Test.YbulkeeroCpl
import Derived.Test.YbulkeeroCall
import Derived.Laws.BitsAllLaws
namespace Go.Proofs.Ybulkeero
open Go.RowKit Go.Joins

theorem byt_wf {l : List Int} (h : Byt l) : ∀ z ∈ l, (Lit.int .u8 z).wf = true := fun z hz => by
  have := h z hz
  simp [Lit.wf, IntKind.min, IntKind.max, IntKind.bits, IntKind.signed]
  omega
theorem range_getD {w : World} {b o : Nat} {l : List Int} (h : w.rangeAt b o (by8 l)) : ∀ i, i < l.length → w.cell? ((⟨b, o, Option.none⟩ : Addr).add i) = some (.int .u8 (l.getD i 0)) := fun i hi => by
  rw [Addr.add_mid]
  refine h i _ ?_
  unfold by8
  rw [List.getElem?_map, List.getElem?_eq_getElem hi, List.getD_eq_getElem?_getD, List.getElem?_eq_getElem hi]
  rfl
theorem range_drop {w : World} {b : Nat} {l : List Int} (h : w.rangeAt b 0 (by8 l)) (o : Nat) : w.rangeAt b o (by8 (l.drop o)) := fun j v hj => by
  have := h (o + j) v (by unfold by8 at *; rw [List.map_drop, List.getElem?_drop] at hj; exact hj)
  rwa [Nat.zero_add] at this
theorem u64_any (w : World) (g o n c : Nat) (l : List Int) (hl : o + 8 ≤ l.length) (hn : 8 ≤ n) (hb : Byt l) (hr : w.rangeAt g 0 (by8 l)) :
    Calls Yba.prog 46 #[.agg #[], .slice (some ⟨g, o, none⟩) n c] w fun e w' => e = .returned (.int .u64 ((wd l o 8 : Nat) : Int)) ∧ Below w.heap.size w w' := by
  have hb' : Byt (l.drop o) := fun z hz => hb z (List.mem_of_mem_drop hz)
  refine (Yba.binary_BE_Uint64_z ⟨g, o, none⟩ n c (l.drop o) w hn (by rw [List.length_drop]; omega) (range_getD (range_drop hr o)) (byt_wf hb')).mono ?_
  rintro e w' ⟨rfl, h⟩
  have := (beZ_bounds ((l.drop o).take 8) (byt_part hb o 8)).1
  exact ⟨by unfold wd; rw [Int.toNat_of_nonneg this], h⟩
theorem u32_any (w : World) (g o n c : Nat) (l : List Int) (hl : o + 4 ≤ l.length) (hn : 4 ≤ n) (hb : Byt l) (hr : w.rangeAt g 0 (by8 l)) :
    Calls Yba.prog 48 #[.agg #[], .slice (some ⟨g, o, none⟩) n c] w fun e w' => e = .returned (.int .u32 ((wd l o 4 : Nat) : Int)) ∧ Below w.heap.size w w' := by
  have hb' : Byt (l.drop o) := fun z hz => hb z (List.mem_of_mem_drop hz)
  refine (Yba.binary_BE_Uint32_z ⟨g, o, none⟩ n c (l.drop o) w hn (by rw [List.length_drop]; omega) (range_getD (range_drop hr o)) (byt_wf hb')).mono ?_
  rintro e w' ⟨rfl, h⟩
  have := (beZ_bounds ((l.drop o).take 4) (byt_part hb o 4)).1
  exact ⟨by unfold wd; rw [Int.toNat_of_nonneg this], h⟩

/-- The two IDs in their blocks. -/
structure TwoAt (kb fb : Nat) (a b : List Int) (w : World) : Prop where
  a : w.rangeAt kb 0 (by8 a)
  b : w.rangeAt fb 0 (by8 b)
theorem TwoAt.below {kb fb : Nat} {a b : List Int} {w w' : World} (h : TwoAt kb fb a b w) (hB : Below w.heap.size w w') : TwoAt kb fb a b w' := by
  have g : ∀ {c o : Nat} {l : List Value}, w.rangeAt c o l → w'.rangeAt c o l := fun h j v hj => by
    rw [hB.cell (p := ⟨_, _, none⟩) (block_lt_of_cell (h j v hj))]
    exact h j v hj
  exact ⟨g h.a, g h.b⟩
theorem below_drew (w : World) : Below w.heap.size w w.drew := (Below.refl _ _).drew
theorem below_step {W w w' : World} (h : Below W.heap.size W w) (hs : W.heap.size ≤ w.heap.size) (k : Below w.heap.size w w') : Below W.heap.size W w' ∧ W.heap.size ≤ w'.heap.size := ⟨h.trans (k.mono hs), Nat.le_trans hs k.size⟩

theorem two_start (w : World) (a b : List Int) : TwoAt w.heap.size (w.heap.size + 1) a b ((w.alloc (.cells (by8 a).toArray 27)).alloc (.cells (by8 b).toArray 27)) ∧ Below w.heap.size w ((w.alloc (.cells (by8 a).toArray 27)).alloc (.cells (by8 b).toArray 27)) ∧ w.heap.size ≤ ((w.alloc (.cells (by8 a).toArray 27)).alloc (.cells (by8 b).toArray 27)).heap.size := by
  refine ⟨⟨World.rangeAt_alloc (range_new w (by8 a) 27) _, ?_⟩, ((Below.refl _ w).alloc (Nat.le_refl _) _).alloc (by simp) _, by simp; omega⟩
  have := range_new (w.alloc (.cells (by8 a).toArray 27)) (by8 b) 27
  rwa [show (w.alloc (.cells (by8 a).toArray 27)).heap.size = w.heap.size + 1 by simp] at this
theorem two_step {w W W1 W2 : World} (h : Below w.heap.size w W) (hs : w.heap.size ≤ W.heap.size) (hd : Below W.heap.size W W.drew) (h1 : Below W.drew.heap.size W.drew W1) (h2 : Below W1.heap.size W1 W2) : Below w.heap.size w W2 ∧ w.heap.size ≤ W2.heap.size := by
  have a1 := below_step h hs hd
  have a2 := below_step a1.1 a1.2 h1
  exact below_step a2.1 a2.2 h2
/-- Its ways. -/
theorem cpl_cases {a b : List Int} (ha : Byt a) (hb : Byt b) (la : a.length = 20) (lb : b.length = 20) :
    (wd a 0 8 ^^^ wd b 0 8 ≠ 0 → ((cpl a b : Nat) : Int) = 64 - (Lib.bitLen (wd a 0 8 ^^^ wd b 0 8) : Int) ∧ Lib.bitLen (wd a 0 8 ^^^ wd b 0 8) ≤ 64) ∧
    (wd a 0 8 ^^^ wd b 0 8 = 0 → wd a 8 8 ^^^ wd b 8 8 ≠ 0 → ((cpl a b : Nat) : Int) = 64 + (64 - (Lib.bitLen (wd a 8 8 ^^^ wd b 8 8) : Int)) ∧ Lib.bitLen (wd a 8 8 ^^^ wd b 8 8) ≤ 64) ∧
    (wd a 0 8 ^^^ wd b 0 8 = 0 → wd a 8 8 ^^^ wd b 8 8 = 0 → wd a 16 4 ^^^ wd b 16 4 ≠ 0 → ((cpl a b : Nat) : Int) = 128 + (32 - (Lib.bitLen (wd a 16 4 ^^^ wd b 16 4) : Int)) ∧ Lib.bitLen (wd a 16 4 ^^^ wd b 16 4) ≤ 32) ∧
    (wd a 0 8 ^^^ wd b 0 8 = 0 → wd a 8 8 ^^^ wd b 8 8 = 0 → wd a 16 4 ^^^ wd b 16 4 = 0 → ((cpl a b : Nat) : Int) = 160) := by
  unfold cpl
  refine ⟨fun h0 => ?_, fun h0 h1 => ?_, fun h0 h1 h2 => ?_, fun h0 h1 h2 => ?_⟩
  · have d := (word_diff (by decide) ha hb (by omega) (by omega) h0).1
    rw [if_pos h0]
    omega
  · have d := (word_diff (by decide) ha hb (by omega) (by omega) h1).1
    rw [if_neg (by simpa using h0), if_pos h1]
    omega
  · have d := (word_diff (by decide) ha hb (by omega) (by omega) h2).1
    rw [if_neg (by simpa using h0), if_neg (by simpa using h1), if_pos h2]
    omega
  · rw [if_neg (by simpa using h0), if_neg (by simpa using h1), if_neg (by simpa using h2)]
    rfl

set_option maxHeartbeats 2000000 in
set_option maxRecDepth 20000 in
theorem cpl_any (w : World) (a b : List Int) (la : a.length = 20) (lb : b.length = 20) (ha : Byt a) (hb : Byt b) :
    Calls Yba.prog 42 #[.agg (by8 a).toArray, .agg (by8 b).toArray] w fun e w' => e = .returned (.int .i64 ((cpl a b : Nat) : Int)) ∧ Below w.heap.size w w' := by
  have HC := hid (cpl_cases ha hb la lb)
  obtain ⟨X0, hX0⟩ : ∃ X, X = wd a 0 8 ^^^ wd b 0 8 := ⟨_, rfl⟩
  obtain ⟨X1, hX1⟩ : ∃ X, X = wd a 8 8 ^^^ wd b 8 8 := ⟨_, rfl⟩
  obtain ⟨X2, hX2⟩ : ∃ X, X = wd a 16 4 ^^^ wd b 16 4 := ⟨_, rfl⟩
  rw [← hX0, ← hX1, ← hX2] at HC
  have x0 : bits .xor .u64 ((wd a 0 8 : Nat) : Int) ((wd b 0 8 : Nat) : Int) = (X0 : Int) := by rw [hX0]; exact u64_xor_nat _ _ (wd_lt ha (by omega)) (wd_lt hb (by omega))
  have x1 : bits .xor .u64 ((wd a 8 8 : Nat) : Int) ((wd b 8 8 : Nat) : Int) = (X1 : Int) := by rw [hX1]; exact u64_xor_nat _ _ (wd_lt ha (by omega)) (wd_lt hb (by omega))
  have x2 : bits .xor .u32 ((wd a 16 4 : Nat) : Int) ((wd b 16 4 : Nat) : Int) = (X2 : Int) := by rw [hX2]; exact u32_xor_nat _ _ (wd_lt ha (by omega)) (wd_lt hb (by omega))
  have l0 : X0 < 2 ^ 64 := by rw [hX0]; exact Nat.xor_lt_two_pow (wd_lt ha (by omega)) (wd_lt hb (by omega))
  have l1 : X1 < 2 ^ 64 := by rw [hX1]; exact Nat.xor_lt_two_pow (wd_lt ha (by omega)) (wd_lt hb (by omega))
  have l2 : X2 < 2 ^ 32 := by rw [hX2]; exact Nat.xor_lt_two_pow (wd_lt ha (by omega)) (wd_lt hb (by omega))
  have L0 := hid l0
  have L1 := hid l1
  have L2 := hid l2
  have HA := hid ha
  have HB := hid hb
  clear hX0 hX1 hX2 l0 l1 l2 ha hb
  go_enter Yba.func42, Yba.ntmps42
  go_wp2
  have HS : Hid (TwoAt w.heap.size (w.heap.size + 1) a b ((w.alloc (.cells (by8 a).toArray 27)).alloc (.cells (by8 b).toArray 27)) ∧ Below w.heap.size w ((w.alloc (.cells (by8 a).toArray 27)).alloc (.cells (by8 b).toArray 27)) ∧ w.heap.size ≤ ((w.alloc (.cells (by8 a).toArray 27)).alloc (.cells (by8 b).toArray 27)).heap.size) := two_start w a b
  generalize (w.alloc (.cells (by8 a).toArray 27)).alloc (.cells (by8 b).toArray 27) = W0 at *
  refine beginE [] (TwoAt w.heap.size (w.heap.size + 1) a b) (by kernel_rfl) (HS.out.1.below (below_drew _)) (fun hHeld => ?_)
  refine takeE 0 { dst := some 8, op := Op.load 180 (Operand.global 0), type := 180, pos := "identity.go:106", after := #[], guard := none } (.agg #[]) rfl (by kernel_rfl) (by kernel_rfl) (by kernel_rfl) (by kernel_rfl) (fun _ _ _ h => h) (Or.inl ⟨by rfl, by intro w hSw; clear hSw; go_simp⟩) hHeld ?_
  simp only [Act.put, List.setIfInBounds_toArray, List.set_cons_zero, List.set_cons_succ]
  refine takeE 1 { dst := some 9, op := Op.slice 27 (Operand.tmp 2) none none none, type := 25, pos := "identity.go:106", after := #[], guard := none } (.slice (some ⟨w.heap.size, 0, none⟩) 20 20) rfl (by kernel_rfl) (by kernel_rfl) (by kernel_rfl) (by kernel_rfl) (fun _ _ _ h => h) (Or.inl ⟨by rfl, by intro w hSw; clear hSw; go_simp⟩) hHeld ?_
  simp only [Act.put, List.setIfInBounds_toArray, List.set_cons_zero, List.set_cons_succ]
  refine takeE 3 { dst := some 11, op := Op.load 180 (Operand.global 0), type := 180, pos := "identity.go:106", after := #[], guard := none } (.agg #[]) rfl (by kernel_rfl) (by kernel_rfl) (by kernel_rfl) (by kernel_rfl) (fun _ _ _ h => h) (Or.inl ⟨by rfl, by intro w hSw; clear hSw; go_simp⟩) hHeld ?_
  simp only [Act.put, List.setIfInBounds_toArray, List.set_cons_zero, List.set_cons_succ]
  refine takeE 4 { dst := some 12, op := Op.slice 27 (Operand.tmp 3) none none none, type := 25, pos := "identity.go:106", after := #[], guard := none } (.slice (some ⟨w.heap.size + 1, 0, none⟩) 20 20) rfl (by kernel_rfl) (by kernel_rfl) (by kernel_rfl) (by kernel_rfl) (fun _ _ _ h => h) (Or.inl ⟨by rfl, by intro w hSw; clear hSw; go_simp⟩) hHeld ?_
  simp only [Act.put, List.setIfInBounds_toArray, List.set_cons_zero, List.set_cons_succ]
  refine stepE 2 { dst := some 10, op := Op.call { callee := Callee.value (Operand.func 46), args := #[Operand.tmp 8, Operand.tmp 9], argTypes := #[180, 25] }, type := 92, pos := "identity.go:106", after := #[{ on := 0, ground := Ground.data }, { on := 1, ground := Ground.data }], guard := none } rfl (by kernel_rfl) (fun K hK => ?_)
  rw [if_pos (by rfl)]
  refine wp_enter 46 #[.agg #[], .slice (some ⟨w.heap.size, 0, none⟩) 20 20] (by go_simp) (u64_any W0.drew (w.heap.size) 0 20 20 a (by omega) (by decide) HA.out hHeld.a) ?_
  rintro e W1a ⟨rfl, hB2⟩
  refine ⟨_, rfl, ?_⟩
  simp only [Act.put, List.setIfInBounds_toArray, List.set_cons_zero, List.set_cons_succ]
  have hT1 := hHeld.below hB2
  refine hK _ _ (fun _ => hT1) ?_
  clear hK K
  refine stepE 5 { dst := some 13, op := Op.call { callee := Callee.value (Operand.func 46), args := #[Operand.tmp 11, Operand.tmp 12], argTypes := #[180, 25] }, type := 92, pos := "identity.go:106", after := #[{ on := 3, ground := Ground.data }, { on := 4, ground := Ground.data }, { on := 2, ground := Ground.chain }], guard := none } rfl (by kernel_rfl) (fun K hK => ?_)
  rw [if_pos (by rfl)]
  refine wp_enter 46 #[.agg #[], .slice (some ⟨w.heap.size + 1, 0, none⟩) 20 20] (by go_simp) (u64_any W1a (w.heap.size + 1) 0 20 20 b (by omega) (by decide) HB.out hT1.b) ?_
  rintro e W1b ⟨rfl, hB5⟩
  refine ⟨_, rfl, ?_⟩
  simp only [Act.put, List.setIfInBounds_toArray, List.set_cons_zero, List.set_cons_succ]
  have hT2 := hT1.below hB5
  refine hK _ _ (fun _ => hT2) ?_
  clear hK K
  refine stepE 6 { dst := some 14, op := Op.binOp BinOp.xor 92 (Operand.tmp 10) (Operand.tmp 13) 92, type := 92, pos := "identity.go:106", after := #[{ on := 2, ground := Ground.data }, { on := 5, ground := Ground.data }], guard := none } rfl (by kernel_rfl) (fun K hK => ?_)
  rw [if_pos (by rfl)]
  refine wp_same (.int .u64 (X0 : Int)) (by go_simp) ?_
  simp only [Act.put, List.setIfInBounds_toArray, List.set_cons_zero, List.set_cons_succ]
  refine hK _ _ (fun _ => hT2) ?_
  clear hK K
  refine stepE 7 { dst := some 5, op := Op.assign (Operand.tmp 14), type := 92, pos := "identity.go:106", after := #[{ on := 6, ground := Ground.data }, { on := 5, ground := Ground.chain }, { on := 0, ground := Ground.phase }, { on := 1, ground := Ground.phase }, { on := 2, ground := Ground.phase }, { on := 3, ground := Ground.phase }, { on := 4, ground := Ground.phase }, { on := 5, ground := Ground.phase }, { on := 6, ground := Ground.phase }], guard := none } rfl (by kernel_rfl) (fun K hK => ?_)
  rw [if_pos (by rfl)]
  refine wp_same (.int .u64 (X0 : Int)) (by go_simp) ?_
  simp only [Act.put, List.setIfInBounds_toArray, List.set_cons_zero, List.set_cons_succ]
  refine hK _ _ (fun _ => hT2) ?_
  clear hK K
  have HS1 : Hid (TwoAt w.heap.size (w.heap.size + 1) a b W1b ∧ Below w.heap.size w W1b ∧ w.heap.size ≤ W1b.heap.size) := ⟨hT2, two_step HS.out.2.1 HS.out.2.2 (below_drew W0) hB2 hB5⟩
  clear HS hT1 hT2 hB2 hB5 hHeld
  refine doneE (by kernel_rfl) ?_ _
  by_cases h0 : X0 = 0
  case neg =>
    have h0' : ¬ (X0 : Int) = 0 := by omega
    go_wp2_with (go_at_call 47; refine (Yba.bits_LeadingZeros64 (X0 : Int) _ (by omega) (by have := L0.out; omega)).mono ?_; rintro e w5 ⟨rfl, rfl⟩)
    go_ret
    exact ⟨by rw [(HC.out.1 h0).1]; simp, HS1.out.2.1⟩
  subst h0
  go_wp2
  refine beginE [] (TwoAt w.heap.size (w.heap.size + 1) a b) (by kernel_rfl) (HS1.out.1.below (below_drew _)) (fun hHeld => ?_)
  refine takeE 0 { dst := some 19, op := Op.load 180 (Operand.global 0), type := 180, pos := "identity.go:109", after := #[], guard := none } (.agg #[]) rfl (by kernel_rfl) (by kernel_rfl) (by kernel_rfl) (by kernel_rfl) (fun _ _ _ h => h) (Or.inl ⟨by rfl, by intro w hSw; clear hSw; go_simp⟩) hHeld ?_
  simp only [Act.put, List.setIfInBounds_toArray, List.set_cons_zero, List.set_cons_succ]
  refine takeE 1 { dst := some 20, op := Op.slice 27 (Operand.tmp 2) (some (Operand.const (Value.int IntKind.i64 8))) none none, type := 25, pos := "identity.go:109", after := #[], guard := none } (.slice (some ⟨w.heap.size, 8, none⟩) 12 12) rfl (by kernel_rfl) (by kernel_rfl) (by kernel_rfl) (by kernel_rfl) (fun _ _ _ h => h) (Or.inl ⟨by rfl, by intro w hSw; clear hSw; go_simp⟩) hHeld ?_
  simp only [Act.put, List.setIfInBounds_toArray, List.set_cons_zero, List.set_cons_succ]
  refine takeE 3 { dst := some 22, op := Op.load 180 (Operand.global 0), type := 180, pos := "identity.go:109", after := #[], guard := none } (.agg #[]) rfl (by kernel_rfl) (by kernel_rfl) (by kernel_rfl) (by kernel_rfl) (fun _ _ _ h => h) (Or.inl ⟨by rfl, by intro w hSw; clear hSw; go_simp⟩) hHeld ?_
  simp only [Act.put, List.setIfInBounds_toArray, List.set_cons_zero, List.set_cons_succ]
  refine takeE 4 { dst := some 23, op := Op.slice 27 (Operand.tmp 3) (some (Operand.const (Value.int IntKind.i64 8))) none none, type := 25, pos := "identity.go:109", after := #[], guard := none } (.slice (some ⟨w.heap.size + 1, 8, none⟩) 12 12) rfl (by kernel_rfl) (by kernel_rfl) (by kernel_rfl) (by kernel_rfl) (fun _ _ _ h => h) (Or.inl ⟨by rfl, by intro w hSw; clear hSw; go_simp⟩) hHeld ?_
  simp only [Act.put, List.setIfInBounds_toArray, List.set_cons_zero, List.set_cons_succ]
  refine stepE 2 { dst := some 21, op := Op.call { callee := Callee.value (Operand.func 46), args := #[Operand.tmp 19, Operand.tmp 20], argTypes := #[180, 25] }, type := 92, pos := "identity.go:109", after := #[{ on := 0, ground := Ground.data }, { on := 1, ground := Ground.data }], guard := none } rfl (by kernel_rfl) (fun K hK => ?_)
  rw [if_pos (by rfl)]
  refine wp_enter 46 #[.agg #[], .slice (some ⟨w.heap.size, 8, none⟩) 12 12] (by go_simp) (u64_any W1b.drew (w.heap.size) 8 12 12 a (by omega) (by decide) HA.out hHeld.a) ?_
  rintro e W2a ⟨rfl, hB2⟩
  refine ⟨_, rfl, ?_⟩
  simp only [Act.put, List.setIfInBounds_toArray, List.set_cons_zero, List.set_cons_succ]
  have hT1 := hHeld.below hB2
  refine hK _ _ (fun _ => hT1) ?_
  clear hK K
  refine stepE 5 { dst := some 24, op := Op.call { callee := Callee.value (Operand.func 46), args := #[Operand.tmp 22, Operand.tmp 23], argTypes := #[180, 25] }, type := 92, pos := "identity.go:109", after := #[{ on := 3, ground := Ground.data }, { on := 4, ground := Ground.data }, { on := 2, ground := Ground.chain }], guard := none } rfl (by kernel_rfl) (fun K hK => ?_)
  rw [if_pos (by rfl)]
  refine wp_enter 46 #[.agg #[], .slice (some ⟨w.heap.size + 1, 8, none⟩) 12 12] (by go_simp) (u64_any W2a (w.heap.size + 1) 8 12 12 b (by omega) (by decide) HB.out hT1.b) ?_
  rintro e W2b ⟨rfl, hB5⟩
  refine ⟨_, rfl, ?_⟩
  simp only [Act.put, List.setIfInBounds_toArray, List.set_cons_zero, List.set_cons_succ]
  have hT2 := hT1.below hB5
  refine hK _ _ (fun _ => hT2) ?_
  clear hK K
  refine stepE 6 { dst := some 25, op := Op.binOp BinOp.xor 92 (Operand.tmp 21) (Operand.tmp 24) 92, type := 92, pos := "identity.go:109", after := #[{ on := 2, ground := Ground.data }, { on := 5, ground := Ground.data }], guard := none } rfl (by kernel_rfl) (fun K hK => ?_)
  rw [if_pos (by rfl)]
  refine wp_same (.int .u64 (X1 : Int)) (by go_simp) ?_
  simp only [Act.put, List.setIfInBounds_toArray, List.set_cons_zero, List.set_cons_succ]
  refine hK _ _ (fun _ => hT2) ?_
  clear hK K
  refine stepE 7 { dst := some 6, op := Op.assign (Operand.tmp 25), type := 92, pos := "identity.go:109", after := #[{ on := 6, ground := Ground.data }, { on := 5, ground := Ground.chain }, { on := 0, ground := Ground.phase }, { on := 1, ground := Ground.phase }, { on := 2, ground := Ground.phase }, { on := 3, ground := Ground.phase }, { on := 4, ground := Ground.phase }, { on := 5, ground := Ground.phase }, { on := 6, ground := Ground.phase }], guard := none } rfl (by kernel_rfl) (fun K hK => ?_)
  rw [if_pos (by rfl)]
  refine wp_same (.int .u64 (X1 : Int)) (by go_simp) ?_
  simp only [Act.put, List.setIfInBounds_toArray, List.set_cons_zero, List.set_cons_succ]
  refine hK _ _ (fun _ => hT2) ?_
  clear hK K
  have HS2 : Hid (TwoAt w.heap.size (w.heap.size + 1) a b W2b ∧ Below w.heap.size w W2b ∧ w.heap.size ≤ W2b.heap.size) := ⟨hT2, two_step HS1.out.2.1 HS1.out.2.2 (below_drew W1b) hB2 hB5⟩
  clear HS1 hT1 hT2 hB2 hB5 hHeld
  refine doneE (by kernel_rfl) ?_ _
  by_cases h1 : X1 = 0
  case neg =>
    have h1' : ¬ (X1 : Int) = 0 := by omega
    have hcv := HC.out.2.1 (by trivial) h1
    have hwr : IntKind.i64.wrap (64 + (64 - (Lib.bitLen X1 : Int))) = 64 + (64 - (Lib.bitLen X1 : Int)) := by have := hcv.2; rw [IntKind.wrap_i64]; omega
    go_wp2_with (go_at_call 47; refine (Yba.bits_LeadingZeros64 (X1 : Int) _ (by omega) (by have := L1.out; omega)).mono ?_; rintro e w5 ⟨rfl, rfl⟩)
    go_ret
    exact ⟨by rw [hcv.1]; simp, HS2.out.2.1⟩
  subst h1
  go_wp2
  refine beginE [] (TwoAt w.heap.size (w.heap.size + 1) a b) (by kernel_rfl) (HS2.out.1.below (below_drew _)) (fun hHeld => ?_)
  refine takeE 0 { dst := some 31, op := Op.load 180 (Operand.global 0), type := 180, pos := "identity.go:112", after := #[], guard := none } (.agg #[]) rfl (by kernel_rfl) (by kernel_rfl) (by kernel_rfl) (by kernel_rfl) (fun _ _ _ h => h) (Or.inl ⟨by rfl, by intro w hSw; clear hSw; go_simp⟩) hHeld ?_
  simp only [Act.put, List.setIfInBounds_toArray, List.set_cons_zero, List.set_cons_succ]
  refine takeE 1 { dst := some 32, op := Op.slice 27 (Operand.tmp 2) (some (Operand.const (Value.int IntKind.i64 16))) none none, type := 25, pos := "identity.go:112", after := #[], guard := none } (.slice (some ⟨w.heap.size, 16, none⟩) 4 4) rfl (by kernel_rfl) (by kernel_rfl) (by kernel_rfl) (by kernel_rfl) (fun _ _ _ h => h) (Or.inl ⟨by rfl, by intro w hSw; clear hSw; go_simp⟩) hHeld ?_
  simp only [Act.put, List.setIfInBounds_toArray, List.set_cons_zero, List.set_cons_succ]
  refine takeE 3 { dst := some 34, op := Op.load 180 (Operand.global 0), type := 180, pos := "identity.go:112", after := #[], guard := none } (.agg #[]) rfl (by kernel_rfl) (by kernel_rfl) (by kernel_rfl) (by kernel_rfl) (fun _ _ _ h => h) (Or.inl ⟨by rfl, by intro w hSw; clear hSw; go_simp⟩) hHeld ?_
  simp only [Act.put, List.setIfInBounds_toArray, List.set_cons_zero, List.set_cons_succ]
  refine takeE 4 { dst := some 35, op := Op.slice 27 (Operand.tmp 3) (some (Operand.const (Value.int IntKind.i64 16))) none none, type := 25, pos := "identity.go:112", after := #[], guard := none } (.slice (some ⟨w.heap.size + 1, 16, none⟩) 4 4) rfl (by kernel_rfl) (by kernel_rfl) (by kernel_rfl) (by kernel_rfl) (fun _ _ _ h => h) (Or.inl ⟨by rfl, by intro w hSw; clear hSw; go_simp⟩) hHeld ?_
  simp only [Act.put, List.setIfInBounds_toArray, List.set_cons_zero, List.set_cons_succ]
  refine stepE 2 { dst := some 33, op := Op.call { callee := Callee.value (Operand.func 48), args := #[Operand.tmp 31, Operand.tmp 32], argTypes := #[180, 25] }, type := 23, pos := "identity.go:112", after := #[{ on := 0, ground := Ground.data }, { on := 1, ground := Ground.data }], guard := none } rfl (by kernel_rfl) (fun K hK => ?_)
  rw [if_pos (by rfl)]
  refine wp_enter 48 #[.agg #[], .slice (some ⟨w.heap.size, 16, none⟩) 4 4] (by go_simp) (u32_any W2b.drew (w.heap.size) 16 4 4 a (by omega) (by decide) HA.out hHeld.a) ?_
  rintro e W3a ⟨rfl, hB2⟩
  refine ⟨_, rfl, ?_⟩
  simp only [Act.put, List.setIfInBounds_toArray, List.set_cons_zero, List.set_cons_succ]
  have hT1 := hHeld.below hB2
  refine hK _ _ (fun _ => hT1) ?_
  clear hK K
  refine stepE 5 { dst := some 36, op := Op.call { callee := Callee.value (Operand.func 48), args := #[Operand.tmp 34, Operand.tmp 35], argTypes := #[180, 25] }, type := 23, pos := "identity.go:112", after := #[{ on := 3, ground := Ground.data }, { on := 4, ground := Ground.data }, { on := 2, ground := Ground.chain }], guard := none } rfl (by kernel_rfl) (fun K hK => ?_)
  rw [if_pos (by rfl)]
  refine wp_enter 48 #[.agg #[], .slice (some ⟨w.heap.size + 1, 16, none⟩) 4 4] (by go_simp) (u32_any W3a (w.heap.size + 1) 16 4 4 b (by omega) (by decide) HB.out hT1.b) ?_
  rintro e W3b ⟨rfl, hB5⟩
  refine ⟨_, rfl, ?_⟩
  simp only [Act.put, List.setIfInBounds_toArray, List.set_cons_zero, List.set_cons_succ]
  have hT2 := hT1.below hB5
  refine hK _ _ (fun _ => hT2) ?_
  clear hK K
  refine stepE 6 { dst := some 37, op := Op.binOp BinOp.xor 23 (Operand.tmp 33) (Operand.tmp 36) 23, type := 23, pos := "identity.go:112", after := #[{ on := 2, ground := Ground.data }, { on := 5, ground := Ground.data }], guard := none } rfl (by kernel_rfl) (fun K hK => ?_)
  rw [if_pos (by rfl)]
  refine wp_same (.int .u32 (X2 : Int)) (by go_simp) ?_
  simp only [Act.put, List.setIfInBounds_toArray, List.set_cons_zero, List.set_cons_succ]
  refine hK _ _ (fun _ => hT2) ?_
  clear hK K
  refine stepE 7 { dst := some 7, op := Op.assign (Operand.tmp 37), type := 23, pos := "identity.go:112", after := #[{ on := 6, ground := Ground.data }, { on := 5, ground := Ground.chain }, { on := 0, ground := Ground.phase }, { on := 1, ground := Ground.phase }, { on := 2, ground := Ground.phase }, { on := 3, ground := Ground.phase }, { on := 4, ground := Ground.phase }, { on := 5, ground := Ground.phase }, { on := 6, ground := Ground.phase }], guard := none } rfl (by kernel_rfl) (fun K hK => ?_)
  rw [if_pos (by rfl)]
  refine wp_same (.int .u32 (X2 : Int)) (by go_simp) ?_
  simp only [Act.put, List.setIfInBounds_toArray, List.set_cons_zero, List.set_cons_succ]
  refine hK _ _ (fun _ => hT2) ?_
  clear hK K
  have HS3 : Hid (TwoAt w.heap.size (w.heap.size + 1) a b W3b ∧ Below w.heap.size w W3b ∧ w.heap.size ≤ W3b.heap.size) := ⟨hT2, two_step HS2.out.2.1 HS2.out.2.2 (below_drew W2b) hB2 hB5⟩
  clear HS2 hT1 hT2 hB2 hB5 hHeld
  refine doneE (by kernel_rfl) ?_ _
  by_cases h2 : X2 = 0
  case neg =>
    have h2' : ¬ (X2 : Int) = 0 := by omega
    have hcv := HC.out.2.2.1 (by trivial) (by trivial) h2
    have hwr : IntKind.i64.wrap (128 + (32 - (Lib.bitLen X2 : Int))) = 128 + (32 - (Lib.bitLen X2 : Int)) := by have := hcv.2; rw [IntKind.wrap_i64]; omega
    go_wp2_with (go_at_call 49; refine (Yba.bits_LeadingZeros32 (X2 : Int) _ (by omega) (by have := L2.out; omega)).mono ?_; rintro e w5 ⟨rfl, rfl⟩)
    go_ret
    exact ⟨by rw [hcv.1]; simp, HS3.out.2.1⟩
  subst h2
  go_wp2
  go_ret
  exact ⟨by rw [HC.out.2.2.2 (by trivial) (by trivial) (by trivial)]; rfl, HS3.out.2.1⟩

end Go.Proofs.Ybulkeero
