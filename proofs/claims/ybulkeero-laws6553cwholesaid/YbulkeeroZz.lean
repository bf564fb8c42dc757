/- zzs6553creach (function 20). -/
import Derived.Test.YbulkeeroReach30
namespace Go.Proofs.Ybulkeero
open Go.RowKit Go.Joins

def zsnd : Code → Code
  | .seq _ y => y
  | c => c
def zdrop : Nat → Code → Code
  | 0, c => c
  | n + 1, c => zdrop n (zsnd c)
noncomputable def zzC (n : Nat) : Code := zdrop n (Yba.f20.body.getD .ret)
theorem build139p (w : World) (d : Nat) (P : List Int) (hl : P.length = 20) : (Instr.build 139 #[(0, .int .i64 (d : Int)), (1, .agg (by8 P).toArray)]).run Yba.prog w = .ok (rv d P) w := by
  obtain ⟨k0, k1, k2, k3, k4, k5, k6, k7, k8, k9, k10, k11, k12, k13, k14, k15, k16, k17, k18, k19, rfl⟩ := list20 hl
  simp [go_sem, rv, rcells, by8]
theorem shr_exec {ρ : Operand → Value} {o : Oper} {w : World} {y : Operand} {t : TypeId} {r : Nat} (ho : o.op = .binOp .shr 5 (.const (.int .u8 128)) y t) (hc : ρ (.const (.int .u8 128)) = .int .u8 128) (hy : ρ y = .int .u64 (r : Int)) (hr : r ≤ 7) :
    (execOp ρ o).run Yba.prog w = .ok (.value (.int .u8 ((128 / 2 ^ r : Nat) : Int))) w := by
  have hr8 : r = 0 ∨ r = 1 ∨ r = 2 ∨ r = 3 ∨ r = 4 ∨ r = 5 ∨ r = 6 ∨ r = 7 := by omega
  unfold execOp
  rcases hr8 with rfl | rfl | rfl | rfl | rfl | rfl | rfl | rfl <;> simp [ho, hc, hy, go_sem, IntKind.bits]
theorem wrap_small (r : Nat) (h : r ≤ 1000) : IntKind.u64.wrap (r : Int) = (r : Int) := by rw [IntKind.wrap_u64]; omega
theorem wrap_small' (r : Nat) (h : r ≤ 1000) : IntKind.i64.wrap (r : Int) = (r : Int) := by rw [IntKind.wrap_i64]; omega
theorem byte_at {l : List Int} {q : Nat} (hq : q < l.length) : (by8 l)[q]? = some (.int .u8 (l.getD q 0)) := by
  unfold by8
  rw [List.getElem?_map, List.getElem?_eq_getElem hq, List.getD_eq_getElem?_getD, List.getElem?_eq_getElem hq]
  rfl
theorem byte_in {l : List Int} (h : Byt l) (q : Nat) : 0 ≤ l.getD q 0 ∧ l.getD q 0 ≤ 255 := by
  rw [List.getD_eq_getElem?_getD]
  cases hh : l[q]? with
  | none => simp
  | some z => exact h z (List.mem_of_getElem? hh)
theorem pre_byt {key : List Int} (h : Byt key) (d : Nat) : Byt (pre key d) := by
  intro z hz
  obtain ⟨j, -, rfl⟩ := List.mem_map.1 hz
  unfold preAt
  split
  · exact byte_in h j
  · split
    · unfold mk
      have h1 : (key.getD j 0).toNat &&& (255 * 2 ^ (8 - d % 8) % 256) ≤ 255 * 2 ^ (8 - d % 8) % 256 := Nat.and_le_right
      have h2 : 255 * 2 ^ (8 - d % 8) % 256 < 256 := Nat.mod_lt _ (by decide)
      omega
    · exact ⟨by decide, by decide⟩

theorem wrap_succ' (k : Nat) (h : k ≤ 1000000000) : IntKind.i64.wrap ((k : Int) + 1) = (k : Int) + 1 := by rw [IntKind.wrap_i64]; omega
/-- p, i bits of it laid. -/
structure PAt (kb pb rb : Nat) (key : List Int) (W : World) (i : Nat) (w : World) : Prop where
  keyR : w.rangeAt kb 0 (by8 key)
  p : w.rangeAt pb 0 (by8 (pre key i))
  there : w.there pb 0 20
  res : w.there rb 0 21
  below : Below W.heap.size W w
theorem PAt.next {kb pb rb i : Nat} {key : List Int} {W w : World} (h : PAt kb pb rb key W i w) (hb : Byt key) (hi : i < 160) (hne : kb ≠ pb) (hW : W.heap.size ≤ pb) (v : Int) (hv : v = (((preAt key i (i / 8)).toNat ||| ((key.getD (i / 8) 0).toNat &&& (128 / 2 ^ (i % 8))) : Nat) : Int)) : PAt kb pb rb key W (i + 1) (w.setCells pb (i / 8) [.int .u8 v]) := by
  refine ⟨World.rangeAt_setCells_apart h.keyR _ _ _ (.inl hne), ?_, World.there_setCells h.there _ _ _, World.there_setCells h.res _ _ _, below_setCells hW _ _ _ h.below⟩
  have hlen : (by8 (pre key i)).length = 20 := by rw [by8_length, pre_length]
  have e : laid (by8 (pre key i)) (i / 8) [.int .u8 v] = by8 (pre key (i + 1)) := by
    rw [laid_one _ _ _ (by omega)]
    apply List.ext_getElem?
    intro j
    by_cases hj : j < 20
    · have g2 : (by8 (pre key (i + 1)))[j]? = some (.int .u8 (preAt key (i + 1) j)) := by unfold by8; rw [List.getElem?_map, pre_get _ _ hj]; rfl
      rw [g2, pre_step hb]
      by_cases hji : j = i / 8
      · rw [if_pos hji, hji, List.getElem?_set_self (by omega), hv]
      · rw [if_neg hji, List.getElem?_set_ne (Ne.symm hji)]
        unfold by8
        rw [List.getElem?_map, pre_get _ _ hj]; rfl
    · rw [List.getElem?_eq_none (by rw [List.length_set, hlen]; omega), List.getElem?_eq_none (by rw [by8_length, pre_length]; omega)]
  rw [← e]
  exact range_laid h.p (by rw [hlen]; exact h.there) (by rw [hlen]; simp; omega)

set_option maxHeartbeats 600000 in
set_option maxRecDepth 20000 in
theorem zz_tail (W w : World) (key : List Int) (kb rb d : Nat) (lk : key.length = 20) (hk : Byt key) (hd : d ≤ 160) (rk : w.rangeAt kb 0 (by8 key)) (ht : w.there rb 0 21) (hrb : W.heap.size ≤ rb) (hB : Below W.heap.size W w) (hs : W.heap.size ≤ w.heap.size) (u0 u1 u2 u4 u5 u8 u9 u10 u11 u12 u13 u14 u15 u16 u17 u18 u19 u20 u21 u22 u23 u24 u25 u26 u27 u28 u29 u30 u31 u32 u33 u34 u35 u36 u37 u38 u39 u40 u41 u42 u43 u44 u45 u46 u47 u48 u49 u50 u51 u52 u53 u54 u55 u56 u57 u58 : Value) :
    (zzC 4).wp Yba.prog (bodyPost Yba.prog Yba.f20 (fun e w' => e = .returned (rv d (pre key d)) ∧ Below W.heap.size W w')) ⟨#[u0, u1, u2, .pointer (some ⟨kb, 0, none⟩), u4, u5, .pointer (some ⟨rb, 0, none⟩), .int .i64 (d : Int), u8, u9, u10, u11, u12, u13, u14, u15, u16, u17, u18, u19, u20, u21, u22, u23, u24, u25, u26, u27, u28, u29, u30, u31, u32, u33, u34, u35, u36, u37, u38, u39, u40, u41, u42, u43, u44, u45, u46, u47, u48, u49, u50, u51, u52, u53, u54, u55, u56, u57, u58], []⟩ w := by
  have hkl : kb < w.heap.size := block_lt_of_cell (rk 0 _ (byte_at (by omega)))
  have HP0 : Hid (PAt kb w.heap.size rb key W 0 (w.alloc (.cells #[.int .u8 0, .int .u8 0, .int .u8 0, .int .u8 0, .int .u8 0, .int .u8 0, .int .u8 0, .int .u8 0, .int .u8 0, .int .u8 0, .int .u8 0, .int .u8 0, .int .u8 0, .int .u8 0, .int .u8 0, .int .u8 0, .int .u8 0, .int .u8 0, .int .u8 0, .int .u8 0] 27))) := ⟨World.rangeAt_alloc rk _, by rw [pre_zero]; exact range_new w (by8 (List.replicate 20 0)) 27, there_new w #[.int .u8 0, .int .u8 0, .int .u8 0, .int .u8 0, .int .u8 0, .int .u8 0, .int .u8 0, .int .u8 0, .int .u8 0, .int .u8 0, .int .u8 0, .int .u8 0, .int .u8 0, .int .u8 0, .int .u8 0, .int .u8 0, .int .u8 0, .int .u8 0, .int .u8 0, .int .u8 0] 27 20 rfl, World.there_alloc ht _, hB.alloc hs _⟩
  have HK := hid hk
  clear rk ht hB hk
  change (Code.seq (Code.region 8 #[{ dst := some 9, op := Op.alloc 27, type := 0, pos := "zz_law_s6553c.go:36", after := #[], guard := none }] false) (Code.seq (Code.seq (Code.region 9 #[{ dst := some 10, op := Op.assign (Operand.const (Value.int IntKind.i64 0)), type := 3, pos := "zz_law_s6553c.go:37", after := #[], guard := none }] false) (Code.block 2 (((Code.region 10 #[{ dst := some 35, op := Op.move (Operand.tmp 10), type := 3, pos := "zz_law_s6553c.go:37", after := #[], guard := none }, { dst := some 36, op := Op.move (Operand.tmp 7), type := 3, pos := "zz_law_s6553c.go:37", after := #[], guard := none }, { dst := some 37, op := Op.binOp BinOp.lss 3 (Operand.tmp 35) (Operand.tmp 36) 3, type := 4, pos := "zz_law_s6553c.go:37", after := #[{ on := 0, ground := Ground.data }, { on := 1, ground := Ground.data }], guard := none }] false).seq (Code.cond (Operand.tmp 37) Code.skip (Code.exit 2))).seq ((Code.block 3 ((Code.region 12 #[{ dst := some 40, op := Op.move (Operand.tmp 10), type := 3, pos := "zz_law_s6553c.go:38", after := #[], guard := none }, { dst := some 41, op := Op.binOp BinOp.rem 3 (Operand.tmp 40) (Operand.const (Value.int IntKind.i64 8)) 3, type := 3, pos := "zz_law_s6553c.go:38", after := #[{ on := 0, ground := Ground.data }], guard := none }, { dst := some 42, op := Op.convert 3 106 (Operand.tmp 41), type := 106, pos := "zz_law_s6553c.go:38", after := #[{ on := 1, ground := Ground.data }], guard := none }, { dst := some 43, op := Op.binOp BinOp.shr 5 (Operand.const (Value.int IntKind.u8 128)) (Operand.tmp 42) 106, type := 5, pos := "zz_law_s6553c.go:38", after := #[{ on := 2, ground := Ground.data }], guard := none }, { dst := some 11, op := Op.assign (Operand.tmp 43), type := 5, pos := "zz_law_s6553c.go:38", after := #[{ on := 3, ground := Ground.data }, { on := 0, ground := Ground.phase }, { on := 1, ground := Ground.phase }, { on := 2, ground := Ground.phase }, { on := 3, ground := Ground.phase }], guard := none }] false).seq (Code.region 13 #[{ dst := some 44, op := Op.move (Operand.tmp 10), type := 3, pos := "zz_law_s6553c.go:39", after := #[], guard := none }, { dst := some 45, op := Op.binOp BinOp.quo 3 (Operand.tmp 44) (Operand.const (Value.int IntKind.i64 8)) 3, type := 3, pos := "zz_law_s6553c.go:39", after := #[{ on := 0, ground := Ground.data }], guard := none }, { dst := some 46, op := Op.indexAddr 27 (Operand.tmp 9) (Operand.tmp 45), type := 0, pos := "zz_law_s6553c.go:39", after := #[{ on := 1, ground := Ground.data }], guard := none }, { dst := some 47, op := Op.load 5 (Operand.tmp 46), type := 5, pos := "zz_law_s6553c.go:39", after := #[{ on := 2, ground := Ground.data }], guard := none }, { dst := some 48, op := Op.move (Operand.tmp 10), type := 3, pos := "zz_law_s6553c.go:39", after := #[], guard := none }, { dst := some 49, op := Op.binOp BinOp.quo 3 (Operand.tmp 48) (Operand.const (Value.int IntKind.i64 8)) 3, type := 3, pos := "zz_law_s6553c.go:39", after := #[{ on := 4, ground := Ground.data }], guard := none }, { dst := some 50, op := Op.indexAddr 27 (Operand.tmp 3) (Operand.tmp 49), type := 0, pos := "zz_law_s6553c.go:39", after := #[{ on := 5, ground := Ground.data }], guard := none }, { dst := some 51, op := Op.load 5 (Operand.tmp 50), type := 5, pos := "zz_law_s6553c.go:39", after := #[{ on := 6, ground := Ground.data }], guard := none }, { dst := some 52, op := Op.move (Operand.tmp 11), type := 5, pos := "zz_law_s6553c.go:39", after := #[], guard := none }, { dst := some 53, op := Op.binOp BinOp.and 5 (Operand.tmp 51) (Operand.tmp 52) 5, type := 5, pos := "zz_law_s6553c.go:39", after := #[{ on := 7, ground := Ground.data }, { on := 8, ground := Ground.data }], guard := none }, { dst := some 54, op := Op.binOp BinOp.or 5 (Operand.tmp 47) (Operand.tmp 53) 5, type := 5, pos := "zz_law_s6553c.go:39", after := #[{ on := 3, ground := Ground.data }, { on := 9, ground := Ground.data }], guard := none }, { dst := some 55, op := Op.indexAddr 27 (Operand.tmp 9) (Operand.tmp 45), type := 0, pos := "zz_law_s6553c.go:39", after := #[{ on := 1, ground := Ground.data }, { on := 0, ground := Ground.phase }, { on := 1, ground := Ground.phase }, { on := 2, ground := Ground.phase }, { on := 3, ground := Ground.phase }, { on := 4, ground := Ground.phase }, { on := 5, ground := Ground.phase }, { on := 6, ground := Ground.phase }, { on := 7, ground := Ground.phase }, { on := 8, ground := Ground.phase }, { on := 9, ground := Ground.phase }, { on := 10, ground := Ground.phase }], guard := none }, { dst := none, op := Op.store 5 (Operand.tmp 55) (Operand.tmp 54), type := 0, pos := "zz_law_s6553c.go:39", after := #[{ on := 11, ground := Ground.data }, { on := 10, ground := Ground.data }, { on := 0, ground := Ground.phase }, { on := 1, ground := Ground.phase }, { on := 2, ground := Ground.phase }, { on := 3, ground := Ground.phase }, { on := 4, ground := Ground.phase }, { on := 5, ground := Ground.phase }, { on := 6, ground := Ground.phase }, { on := 7, ground := Ground.phase }, { on := 8, ground := Ground.phase }, { on := 9, ground := Ground.phase }, { on := 10, ground := Ground.phase }], guard := none }] true))).seq (Code.region 11 #[{ dst := some 38, op := Op.move (Operand.tmp 10), type := 3, pos := "zz_law_s6553c.go:37", after := #[], guard := none }, { dst := some 39, op := Op.binOp BinOp.add 3 (Operand.tmp 38) (Operand.const (Value.int IntKind.i64 1)) 3, type := 3, pos := "zz_law_s6553c.go:37", after := #[{ on := 0, ground := Ground.data }], guard := none }, { dst := some 10, op := Op.assign (Operand.tmp 39), type := 3, pos := "zz_law_s6553c.go:37", after := #[{ on := 1, ground := Ground.data }, { on := 0, ground := Ground.phase }, { on := 1, ground := Ground.phase }], guard := none }] false))).loop)) (Code.seq (Code.region 14 #[{ dst := some 56, op := Op.move (Operand.tmp 7), type := 3, pos := "zz_law_s6553c.go:41", after := #[], guard := none }, { dst := some 57, op := Op.load 27 (Operand.tmp 9), type := 27, pos := "zz_law_s6553c.go:41", after := #[], guard := none }, { dst := some 58, op := Op.build 139 #[(0, Operand.tmp 56), (1, Operand.tmp 57)], type := 139, pos := "zz_law_s6553c.go:41", after := #[{ on := 0, ground := Ground.data }, { on := 1, ground := Ground.data }], guard := none }, { dst := none, op := Op.store 139 (Operand.tmp 6) (Operand.tmp 58), type := 0, pos := "zz_law_s6553c.go:41", after := #[{ on := 2, ground := Ground.data }, { on := 0, ground := Ground.phase }, { on := 1, ground := Ground.phase }, { on := 2, ground := Ground.phase }], guard := none }] false) Code.ret))).wp _ _ _ _
  go_wp2
  go_loopw [10] (fun v wr => ∃ i : Nat, i ≤ d ∧ v = .int .i64 (i : Int) ∧ Hid (PAt kb w.heap.size rb key W i wr)) (fun v _ => d - (intOf v).toNat)
  case atStart => exact ⟨0, Nat.zero_le _, by rfl, HP0⟩
  case round =>
    clear HP0
    obtain ⟨i, hi, rfl, HP⟩ := hrel
    by_cases hid' : i < d
    case neg =>
      obtain rfl : i = d := by omega
      go_upto_region 14 with fail
      rename_i K6 hK6
      refine wp_region_list ?_
      refine wpList_same (.int .i64 (i : Int)) rfl (by go_simp) ?_
      simp only [Act.put, List.setIfInBounds_toArray, List.set_cons_zero, List.set_cons_succ]
      refine wpList_value rfl (load27 rfl rfl (pre_length _ _) HP.out.p) ?_
      simp only [Act.put, List.setIfInBounds_toArray, List.set_cons_zero, List.set_cons_succ]
      refine wpList_value rfl (exec_build rfl (build139p _ i _ (pre_length _ _)) (by simp only [List.map_toArray, List.map_cons, List.map_nil]; rfl)) ?_
      simp only [Act.put, List.setIfInBounds_toArray, List.set_cons_zero, List.set_cons_succ]
      refine wpList_skip rfl (exec_store139 rfl rfl rfl (pre_length _ _) HP.out.res) ?_
      simp only [Act.put]
      have HZ : Hid ((wr.setCells rb 0 (rcells i (pre key i))).rangeAt rb 0 (rcells i (pre key i)) ∧ Below W.heap.size W (wr.setCells rb 0 (rcells i (pre key i)))) := ⟨World.rangeAt_setCells_same _ _ _ _ (by rw [rcells_length, pre_length]; exact HP.out.res), below_setCells hrb _ _ _ HP.out.below⟩
      clear HP
      generalize wr.setCells rb 0 (rcells i (pre key i)) = WG at *
      refine wpList_nil (hK6 _ _ ?_)
      clear hK6 K6
      go_wp2
      exact bodyPost_ret (v := rv i (pre key i)) (results_cell_mid (P := Yba.prog) (fn := Yba.f20) (p := 6) (ty := 139) rfl _ _ rb 0 _ _ rfl HZ.out.1 Yba.underlying139 rfl (by rw [rcells_length, pre_length]; exact Yba.size139)) rfl ⟨rfl, HZ.out.2⟩
    case pos =>
      have j1 : (i : Int) < (d : Int) := by omega
      obtain ⟨q, hq⟩ : ∃ q, q = i / 8 := ⟨_, rfl⟩
      obtain ⟨r, hr⟩ : ∃ r, r = i % 8 := ⟨_, rfl⟩
      have q1 : (i : Int).tdiv 8 = (q : Int) := by rw [Int.tdiv_eq_ediv_of_nonneg (by omega)]; omega
      have q2 : (i : Int).tmod 8 = (r : Int) := by rw [Int.tmod_eq_emod_of_nonneg (by omega)]; omega
      have r7 : r ≤ 7 := by omega
      have z0 : (0 : Int) ≤ (q : Int) := by omega
      have z1 : (q : Int) < 20 := by omega
      have w1 : IntKind.u64.wrap (r : Int) = (r : Int) := wrap_small r (by omega)
      have w2 : IntKind.i64.wrap (q : Int) = (q : Int) := wrap_small' q (by omega)
      have HQ := hid hq
      have HR := hid hr
      have HW := hid (wrap_succ' i (by omega))
      obtain ⟨Bm, hBm⟩ : ∃ B : Nat, B = 128 / 2 ^ r := ⟨_, rfl⟩
      have hB8 : Bm < 256 := by rw [hBm]; exact Nat.lt_of_le_of_lt (Nat.div_le_self _ _) (by decide)
      have hBH := hid hBm
      clear hq hr hBm
      have hkg : (by8 key)[q]? = some (.int .u8 (key.getD q 0)) := byte_at (by omega)
      have hpg : (by8 (pre key i))[q]? = some (.int .u8 (preAt key i q)) := by unfold by8; rw [List.getElem?_map, pre_get _ _ (by omega)]; rfl
      have hkb := byte_in HK.out q
      have hpb : 0 ≤ preAt key i q ∧ preAt key i q ≤ 255 := pre_byt HK.out i _ (List.mem_of_getElem? (pre_get key i (j := q) (by omega)))
      obtain ⟨ka, hka⟩ : ∃ ka : Nat, ka = (key.getD q 0).toNat &&& Bm := ⟨_, rfl⟩
      have hkal : ka < 256 := by rw [hka]; exact Nat.lt_of_le_of_lt Nat.and_le_right hB8
      have hand : bits .and .u8 (key.getD q 0) (Bm : Int) = (ka : Int) := by rw [u8_and _ _ hkb.1 (by omega) (by omega) (by omega), Int.toNat_natCast, hka]
      obtain ⟨nv, hnv⟩ : ∃ nv : Nat, nv = (preAt key i q).toNat ||| ka := ⟨_, rfl⟩
      have hor : bits .or .u8 (preAt key i q) (ka : Int) = (nv : Int) := by rw [u8_or _ _ hpb.1 (by omega) (by omega) (by omega), Int.toNat_natCast, hnv]
      have HNX : Hid (PAt kb w.heap.size rb key W (i + 1) (wr.drew.setCells w.heap.size q [.int .u8 (nv : Int)])) := by
        have hd' : PAt kb w.heap.size rb key W i wr.drew := ⟨(World.rangeAt_drew _ _ _ _).2 HP.out.keyR, (World.rangeAt_drew _ _ _ _).2 HP.out.p, (World.there_drew _ _ _ _).2 HP.out.there, (World.there_drew _ _ _ _).2 HP.out.res, HP.out.below.drew⟩
        have := hd'.next HK.out (by omega) (by omega) (by omega) (nv : Int) (by rw [hnv, hka, hBH.out, ← HQ.out, ← HR.out])
        rw [← HQ.out] at this
        exact hid this
      have hthq := there_sub' (o := q) (n := 1) HP.out.there (by omega)
      have hka0 := hid (And.intro hka hnv)
      clear hka hnv
      generalize hkq : key.getD q 0 = kq at *
      generalize hpq : preAt key i q = pq at *
      clear hkq hpq
      go_upto_region 12 with fail
      rename_i K9 hK9 K6 hK6
      refine wp_region_list ?_
      refine wpList_same (.int .i64 (i : Int)) rfl (by go_simp) ?_
      simp only [Act.put, List.setIfInBounds_toArray, List.set_cons_zero, List.set_cons_succ]
      refine wpList_same (.int .i64 (r : Int)) rfl (by go_simp) ?_
      simp only [Act.put, List.setIfInBounds_toArray, List.set_cons_zero, List.set_cons_succ]
      refine wpList_same (.int .u64 (r : Int)) rfl (by go_simp) ?_
      simp only [Act.put, List.setIfInBounds_toArray, List.set_cons_zero, List.set_cons_succ]
      refine wpList_same (.int .u8 (Bm : Int)) rfl (by rw [hBH.out]; exact shr_exec rfl rfl rfl r7) ?_
      simp only [Act.put, List.setIfInBounds_toArray, List.set_cons_zero, List.set_cons_succ]
      refine wpList_same (.int .u8 (Bm : Int)) rfl (by go_simp) ?_
      simp only [Act.put, List.setIfInBounds_toArray, List.set_cons_zero, List.set_cons_succ]
      refine wpList_nil (hK6 _ _ ?_)
      clear hK6 K6
      refine beginE [12] (fun w' : World => w'.rangeAt kb 0 (by8 key) ∧ w'.rangeAt w.heap.size 0 (by8 (pre key i))) (by kernel_rfl) ⟨(World.rangeAt_drew _ _ _ _).2 HP.out.keyR, (World.rangeAt_drew _ _ _ _).2 HP.out.p⟩ (fun hHeld => ?_)
      refine takeE 0 { dst := some 44, op := Op.move (Operand.tmp 10), type := 3, pos := "zz_law_s6553c.go:39", after := #[], guard := none } (.int .i64 (i : Int)) rfl (by kernel_rfl) (by kernel_rfl) (by kernel_rfl) (by kernel_rfl) (fun _ _ _ h => h) (Or.inl ⟨by rfl, by intro w hSw; clear hSw; go_simp⟩) hHeld ?_
      simp only [Act.put, List.setIfInBounds_toArray, List.set_cons_zero, List.set_cons_succ]
      refine takeE 1 { dst := some 45, op := Op.binOp BinOp.quo 3 (Operand.tmp 44) (Operand.const (Value.int IntKind.i64 8)) 3, type := 3, pos := "zz_law_s6553c.go:39", after := #[{ on := 0, ground := Ground.data }], guard := none } (.int .i64 (q : Int)) rfl (by kernel_rfl) (by kernel_rfl) (by kernel_rfl) (by kernel_rfl) (fun _ _ _ h => h) (Or.inl ⟨by rfl, by intro w hSw; clear hSw; go_simp⟩) hHeld ?_
      simp only [Act.put, List.setIfInBounds_toArray, List.set_cons_zero, List.set_cons_succ]
      refine takeE 2 { dst := some 46, op := Op.indexAddr 27 (Operand.tmp 9) (Operand.tmp 45), type := 0, pos := "zz_law_s6553c.go:39", after := #[{ on := 1, ground := Ground.data }], guard := none } (.pointer (some ⟨w.heap.size, q, none⟩)) rfl (by kernel_rfl) (by kernel_rfl) (by kernel_rfl) (by kernel_rfl) (fun _ _ _ h => h) (Or.inl ⟨by rfl, by intro w hSw; clear hSw; go_simp⟩) hHeld ?_
      simp only [Act.put, List.setIfInBounds_toArray, List.set_cons_zero, List.set_cons_succ]
      refine takeE 3 { dst := some 47, op := Op.load 5 (Operand.tmp 46), type := 5, pos := "zz_law_s6553c.go:39", after := #[{ on := 2, ground := Ground.data }], guard := none } (.int .u8 pq) rfl (by kernel_rfl) (by kernel_rfl) (by kernel_rfl) (by kernel_rfl) (fun _ _ _ h => h) (Or.inl ⟨by rfl, by intro w' hSw; have hSc := hSw.2 q _ hpg; rw [Nat.zero_add] at hSc; clear hSw; go_simp⟩) hHeld ?_
      simp only [Act.put, List.setIfInBounds_toArray, List.set_cons_zero, List.set_cons_succ]
      refine takeE 4 { dst := some 48, op := Op.move (Operand.tmp 10), type := 3, pos := "zz_law_s6553c.go:39", after := #[], guard := none } (.int .i64 (i : Int)) rfl (by kernel_rfl) (by kernel_rfl) (by kernel_rfl) (by kernel_rfl) (fun _ _ _ h => h) (Or.inl ⟨by rfl, by intro w hSw; clear hSw; go_simp⟩) hHeld ?_
      simp only [Act.put, List.setIfInBounds_toArray, List.set_cons_zero, List.set_cons_succ]
      refine takeE 5 { dst := some 49, op := Op.binOp BinOp.quo 3 (Operand.tmp 48) (Operand.const (Value.int IntKind.i64 8)) 3, type := 3, pos := "zz_law_s6553c.go:39", after := #[{ on := 4, ground := Ground.data }], guard := none } (.int .i64 (q : Int)) rfl (by kernel_rfl) (by kernel_rfl) (by kernel_rfl) (by kernel_rfl) (fun _ _ _ h => h) (Or.inl ⟨by rfl, by intro w hSw; clear hSw; go_simp⟩) hHeld ?_
      simp only [Act.put, List.setIfInBounds_toArray, List.set_cons_zero, List.set_cons_succ]
      refine takeE 6 { dst := some 50, op := Op.indexAddr 27 (Operand.tmp 3) (Operand.tmp 49), type := 0, pos := "zz_law_s6553c.go:39", after := #[{ on := 5, ground := Ground.data }], guard := none } (.pointer (some ⟨kb, q, none⟩)) rfl (by kernel_rfl) (by kernel_rfl) (by kernel_rfl) (by kernel_rfl) (fun _ _ _ h => h) (Or.inl ⟨by rfl, by intro w hSw; clear hSw; go_simp⟩) hHeld ?_
      simp only [Act.put, List.setIfInBounds_toArray, List.set_cons_zero, List.set_cons_succ]
      refine takeE 7 { dst := some 51, op := Op.load 5 (Operand.tmp 50), type := 5, pos := "zz_law_s6553c.go:39", after := #[{ on := 6, ground := Ground.data }], guard := none } (.int .u8 kq) rfl (by kernel_rfl) (by kernel_rfl) (by kernel_rfl) (by kernel_rfl) (fun _ _ _ h => h) (Or.inl ⟨by rfl, by intro w' hSw; have hSc := hSw.1 q _ hkg; rw [Nat.zero_add] at hSc; clear hSw; go_simp⟩) hHeld ?_
      simp only [Act.put, List.setIfInBounds_toArray, List.set_cons_zero, List.set_cons_succ]
      refine takeE 8 { dst := some 52, op := Op.move (Operand.tmp 11), type := 5, pos := "zz_law_s6553c.go:39", after := #[], guard := none } (.int .u8 (Bm : Int)) rfl (by kernel_rfl) (by kernel_rfl) (by kernel_rfl) (by kernel_rfl) (fun _ _ _ h => h) (Or.inl ⟨by rfl, by intro w hSw; clear hSw; go_simp⟩) hHeld ?_
      simp only [Act.put, List.setIfInBounds_toArray, List.set_cons_zero, List.set_cons_succ]
      refine takeE 9 { dst := some 53, op := Op.binOp BinOp.and 5 (Operand.tmp 51) (Operand.tmp 52) 5, type := 5, pos := "zz_law_s6553c.go:39", after := #[{ on := 7, ground := Ground.data }, { on := 8, ground := Ground.data }], guard := none } (.int .u8 (ka : Int)) rfl (by kernel_rfl) (by kernel_rfl) (by kernel_rfl) (by kernel_rfl) (fun _ _ _ h => h) (Or.inl ⟨by rfl, by intro w hSw; clear hSw; go_simp⟩) hHeld ?_
      simp only [Act.put, List.setIfInBounds_toArray, List.set_cons_zero, List.set_cons_succ]
      refine takeE 10 { dst := some 54, op := Op.binOp BinOp.or 5 (Operand.tmp 47) (Operand.tmp 53) 5, type := 5, pos := "zz_law_s6553c.go:39", after := #[{ on := 3, ground := Ground.data }, { on := 9, ground := Ground.data }], guard := none } (.int .u8 (nv : Int)) rfl (by kernel_rfl) (by kernel_rfl) (by kernel_rfl) (by kernel_rfl) (fun _ _ _ h => h) (Or.inl ⟨by rfl, by intro w hSw; clear hSw; go_simp⟩) hHeld ?_
      simp only [Act.put, List.setIfInBounds_toArray, List.set_cons_zero, List.set_cons_succ]
      refine takeE 11 { dst := some 55, op := Op.indexAddr 27 (Operand.tmp 9) (Operand.tmp 45), type := 0, pos := "zz_law_s6553c.go:39", after := #[{ on := 1, ground := Ground.data }, { on := 0, ground := Ground.phase }, { on := 1, ground := Ground.phase }, { on := 2, ground := Ground.phase }, { on := 3, ground := Ground.phase }, { on := 4, ground := Ground.phase }, { on := 5, ground := Ground.phase }, { on := 6, ground := Ground.phase }, { on := 7, ground := Ground.phase }, { on := 8, ground := Ground.phase }, { on := 9, ground := Ground.phase }, { on := 10, ground := Ground.phase }], guard := none } (.pointer (some ⟨w.heap.size, q, none⟩)) rfl (by kernel_rfl) (by kernel_rfl) (by kernel_rfl) (by kernel_rfl) (fun _ _ _ h => h) (Or.inl ⟨by rfl, by intro w hSw; clear hSw; go_simp⟩) hHeld ?_
      simp only [Act.put, List.setIfInBounds_toArray, List.set_cons_zero, List.set_cons_succ]
      refine stepE 12 { dst := none, op := Op.store 5 (Operand.tmp 55) (Operand.tmp 54), type := 0, pos := "zz_law_s6553c.go:39", after := #[{ on := 11, ground := Ground.data }, { on := 10, ground := Ground.data }, { on := 0, ground := Ground.phase }, { on := 1, ground := Ground.phase }, { on := 2, ground := Ground.phase }, { on := 3, ground := Ground.phase }, { on := 4, ground := Ground.phase }, { on := 5, ground := Ground.phase }, { on := 6, ground := Ground.phase }, { on := 7, ground := Ground.phase }, { on := 8, ground := Ground.phase }, { on := 9, ground := Ground.phase }, { on := 10, ground := Ground.phase }], guard := none } rfl (by kernel_rfl) (fun K hK => ?_)
      rw [if_pos (by rfl)]
      refine wp_skip' (exec_store5 rfl rfl rfl ((World.there_drew _ _ _ _).2 hthq)) ?_
      simp only [Act.put]
      refine hK _ _ (fun h => by cases h) (doneE (by kernel_rfl) ?_ _)
      clear hK K hHeld hthq hand hor hkg hpg
      generalize wr.drew.setCells w.heap.size q [.int .u8 (nv : Int)] = W2 at *
      have hwk := HW.out
      go_wp2
      clear hwk
      go_roundw
      case rel => exact ⟨i + 1, by omega, by go_num, HNX⟩
      case measure => simp [intOf]; omega

end Go.Proofs.Ybulkeero
