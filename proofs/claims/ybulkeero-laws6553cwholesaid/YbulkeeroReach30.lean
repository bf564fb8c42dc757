/- entry.reach (function 30). -/
import Derived.Test.YbulkeeroWithin
namespace Go.Proofs.Ybulkeero
open Go.RowKit Go.Joins

/-- The reach of an entry. -/
def rdep (key far : List Int) (whole : Bool) : Nat := if whole then 0 else cpl key far
def rpre (key far : List Int) (whole : Bool) : List Int := pre key (rdep key far whole)
theorem rdep_le {key far : List Int} {whole : Bool} (hk : Byt key) (hf : Byt far) (lk : key.length = 20) (lf : far.length = 20) : rdep key far whole ≤ 160 := by
  unfold rdep
  cases whole with
  | true => simp
  | false => exact (cpl_dep hk hf lk lf).le

/-- What reach reads of an entry. -/
structure EAt (eb rb : Nat) (key far : List Int) (w : World) : Prop where
  key : w.rangeAt eb 0 (by8 key)
  far : w.rangeAt eb 22 (by8 far)
  res : w.there rb 0 21
theorem EAt.below {eb rb : Nat} {key far : List Int} {w w' : World} (h : EAt eb rb key far w) (hr : rb < w.heap.size) (hB : Below w.heap.size w w') : EAt eb rb key far w' := by
  have g : ∀ {c o : Nat} {l : List Value}, w.rangeAt c o l → w'.rangeAt c o l := fun h j v hj => by
    rw [hB.cell (p := ⟨_, _, none⟩) (block_lt_of_cell (h j v hj))]
    exact h j v hj
  exact ⟨g h.key, g h.far, there_grown h.res (grown_of_below hB) (by simp) hr⟩

set_option maxHeartbeats 2000000 in
set_option maxRecDepth 20000 in
theorem reach_any (w : World) (eb : Nat) (key far : List Int) (whole : Bool) (lk : key.length = 20) (lf : far.length = 20) (hk : Byt key) (hf : Byt far) (rk : w.rangeAt eb 0 (by8 key)) (rf : w.rangeAt eb 22 (by8 far)) (rw' : w.cell? ⟨eb, 43, none⟩ = some (.bool whole)) (hlt : eb < w.heap.size) :
    Calls Yba.prog 30 #[.pointer (some ⟨eb, 0, none⟩)] w fun e w' => e = .returned (rv (rdep key far whole) (rpre key far whole)) ∧ Below w.heap.size w w' := by
  have HE := hid (And.intro rk rf)
  have HK := hid hk
  have HF := hid hf
  have HW := hid rw'
  have hwc : (w.alloc (.cells #[.int .i64 0, .int .u8 0, .int .u8 0, .int .u8 0, .int .u8 0, .int .u8 0, .int .u8 0, .int .u8 0, .int .u8 0, .int .u8 0, .int .u8 0, .int .u8 0, .int .u8 0, .int .u8 0, .int .u8 0, .int .u8 0, .int .u8 0, .int .u8 0, .int .u8 0, .int .u8 0, .int .u8 0] 139)).cell? ⟨eb, 43, none⟩ = some (.bool whole) := by rw [World.cell?_alloc_lt _ _ _ hlt]; exact rw'
  clear rk rf hk hf rw'
  have HT := hid (there_new w #[.int .i64 0, .int .u8 0, .int .u8 0, .int .u8 0, .int .u8 0, .int .u8 0, .int .u8 0, .int .u8 0, .int .u8 0, .int .u8 0, .int .u8 0, .int .u8 0, .int .u8 0, .int .u8 0, .int .u8 0, .int .u8 0, .int .u8 0, .int .u8 0, .int .u8 0, .int .u8 0, .int .u8 0] 139 21 rfl)
  have hB1 : Below w.heap.size w (w.alloc (.cells #[.int .i64 0, .int .u8 0, .int .u8 0, .int .u8 0, .int .u8 0, .int .u8 0, .int .u8 0, .int .u8 0, .int .u8 0, .int .u8 0, .int .u8 0, .int .u8 0, .int .u8 0, .int .u8 0, .int .u8 0, .int .u8 0, .int .u8 0, .int .u8 0, .int .u8 0, .int .u8 0, .int .u8 0] 139)) := (Below.refl _ w).alloc (Nat.le_refl _) _
  have HB1 := hid hB1
  have hsz : w.heap.size < (w.alloc (.cells #[.int .i64 0, .int .u8 0, .int .u8 0, .int .u8 0, .int .u8 0, .int .u8 0, .int .u8 0, .int .u8 0, .int .u8 0, .int .u8 0, .int .u8 0, .int .u8 0, .int .u8 0, .int .u8 0, .int .u8 0, .int .u8 0, .int .u8 0, .int .u8 0, .int .u8 0, .int .u8 0, .int .u8 0] 139)).heap.size := by simp
  clear hB1
  go_enter Yba.func30, Yba.ntmps30
  cases whole with
  | true =>
    go_upto_region 2 with fail
    rename_i K2 hK2
    refine wp_region_list ?_
    refine wpList_value rfl (exec_build rfl (build139z _) (by simp only [List.map_toArray, List.map_nil])) ?_
    simp only [Act.put, List.setIfInBounds_toArray, List.set_cons_zero, List.set_cons_succ]
    refine wpList_skip rfl (exec_store139 rfl rfl rfl (by simp) HT.out) ?_
    simp only [Act.put]
    have HZ : Hid (((w.alloc (.cells #[.int .i64 0, .int .u8 0, .int .u8 0, .int .u8 0, .int .u8 0, .int .u8 0, .int .u8 0, .int .u8 0, .int .u8 0, .int .u8 0, .int .u8 0, .int .u8 0, .int .u8 0, .int .u8 0, .int .u8 0, .int .u8 0, .int .u8 0, .int .u8 0, .int .u8 0, .int .u8 0, .int .u8 0] 139)).setCells w.heap.size 0 (rcells 0 (List.replicate 20 0))).rangeAt w.heap.size 0 (rcells 0 (List.replicate 20 0)) ∧ Below w.heap.size w ((w.alloc (.cells #[.int .i64 0, .int .u8 0, .int .u8 0, .int .u8 0, .int .u8 0, .int .u8 0, .int .u8 0, .int .u8 0, .int .u8 0, .int .u8 0, .int .u8 0, .int .u8 0, .int .u8 0, .int .u8 0, .int .u8 0, .int .u8 0, .int .u8 0, .int .u8 0, .int .u8 0, .int .u8 0, .int .u8 0] 139)).setCells w.heap.size 0 (rcells 0 (List.replicate 20 0)))) := ⟨World.rangeAt_setCells_same _ _ _ _ (by rw [rcells_length, List.length_replicate]; exact HT.out), below_setCells (Nat.le_refl _) _ _ _ HB1.out⟩
    clear HT HB1 hwc hsz
    generalize (w.alloc (.cells #[.int .i64 0, .int .u8 0, .int .u8 0, .int .u8 0, .int .u8 0, .int .u8 0, .int .u8 0, .int .u8 0, .int .u8 0, .int .u8 0, .int .u8 0, .int .u8 0, .int .u8 0, .int .u8 0, .int .u8 0, .int .u8 0, .int .u8 0, .int .u8 0, .int .u8 0, .int .u8 0, .int .u8 0] 139)).setCells w.heap.size 0 (rcells 0 (List.replicate 20 0)) = WG at *
    refine wpList_nil (hK2 _ _ ?_)
    clear hK2 K2
    go_wp2
    exact bodyPost_ret (v := rv 0 (List.replicate 20 0)) (results_cell_mid (P := Yba.prog) (fn := Yba.f30) (p := 2) (ty := 139) rfl _ _ w.heap.size 0 _ _ rfl HZ.out.1 Yba.underlying139 rfl (by rw [rcells_length, List.length_replicate]; exact Yba.size139)) rfl ⟨by rw [show rdep key far true = 0 from rfl, show rpre key far true = List.replicate 20 0 from pre_zero key], HZ.out.2⟩
  | false =>
    have HS := hid (EAt.mk (eb := eb) (rb := w.heap.size) (key := key) (far := far) (World.rangeAt_alloc HE.out.1 (.cells #[.int .i64 0, .int .u8 0, .int .u8 0, .int .u8 0, .int .u8 0, .int .u8 0, .int .u8 0, .int .u8 0, .int .u8 0, .int .u8 0, .int .u8 0, .int .u8 0, .int .u8 0, .int .u8 0, .int .u8 0, .int .u8 0, .int .u8 0, .int .u8 0, .int .u8 0, .int .u8 0, .int .u8 0] 139)) (World.rangeAt_alloc HE.out.2 (.cells #[.int .i64 0, .int .u8 0, .int .u8 0, .int .u8 0, .int .u8 0, .int .u8 0, .int .u8 0, .int .u8 0, .int .u8 0, .int .u8 0, .int .u8 0, .int .u8 0, .int .u8 0, .int .u8 0, .int .u8 0, .int .u8 0, .int .u8 0, .int .u8 0, .int .u8 0, .int .u8 0, .int .u8 0] 139)) HT.out)
    go_upto_region 3 with fail
    rename_i K2 hK2
    clear HT
    generalize w.alloc (.cells #[.int .i64 0, .int .u8 0, .int .u8 0, .int .u8 0, .int .u8 0, .int .u8 0, .int .u8 0, .int .u8 0, .int .u8 0, .int .u8 0, .int .u8 0, .int .u8 0, .int .u8 0, .int .u8 0, .int .u8 0, .int .u8 0, .int .u8 0, .int .u8 0, .int .u8 0, .int .u8 0, .int .u8 0] 139) = W1 at *
    refine beginE [] (EAt eb w.heap.size key far) (by kernel_rfl) (HS.out.below hsz (below_drew _)) (fun hHeld => ?_)
    refine takeE 0 { dst := some 8, op := Op.move (Operand.tmp 0), type := 153, pos := "reach.go:95", after := #[], guard := none } (.pointer (some ⟨eb, 0, none⟩)) rfl (by kernel_rfl) (by kernel_rfl) (by kernel_rfl) (by kernel_rfl) (fun _ _ _ h => h) (Or.inl ⟨by rfl, by intro w hSw; clear hSw; go_simp⟩) hHeld ?_
    simp only [Act.put, List.setIfInBounds_toArray, List.set_cons_zero, List.set_cons_succ]
    refine takeE 1 { dst := some 9, op := Op.nilCheck (Operand.tmp 8), type := 0, pos := "reach.go:95", after := #[{ on := 0, ground := Ground.data }], guard := none } (.pointer (some ⟨eb, 0, none⟩)) rfl (by kernel_rfl) (by kernel_rfl) (by kernel_rfl) (by kernel_rfl) (fun _ _ _ h => h) (Or.inl ⟨by rfl, by intro w hSw; clear hSw; go_simp⟩) hHeld ?_
    simp only [Act.put, List.setIfInBounds_toArray, List.set_cons_zero, List.set_cons_succ]
    refine takeE 2 { dst := some 10, op := Op.fieldAddr 145 (Operand.tmp 9) 0, type := 0, pos := "reach.go:95", after := #[{ on := 1, ground := Ground.data }], guard := none } (.pointer (some ⟨eb, 0, none⟩)) rfl (by kernel_rfl) (by kernel_rfl) (by kernel_rfl) (by kernel_rfl) (fun _ _ _ h => h) (Or.inl ⟨by rfl, by intro w hSw; clear hSw; go_simp⟩) hHeld ?_
    simp only [Act.put, List.setIfInBounds_toArray, List.set_cons_zero, List.set_cons_succ]
    refine takeE 3 { dst := some 11, op := Op.fieldAddr 142 (Operand.tmp 10) 0, type := 0, pos := "reach.go:95", after := #[{ on := 2, ground := Ground.data }], guard := none } (.pointer (some ⟨eb, 0, none⟩)) rfl (by kernel_rfl) (by kernel_rfl) (by kernel_rfl) (by kernel_rfl) (fun _ _ _ h => h) (Or.inl ⟨by rfl, by intro w hSw; clear hSw; go_simp⟩) hHeld ?_
    simp only [Act.put, List.setIfInBounds_toArray, List.set_cons_zero, List.set_cons_succ]
    refine takeE 4 { dst := some 12, op := Op.load 27 (Operand.tmp 11), type := 27, pos := "reach.go:95", after := #[{ on := 3, ground := Ground.data }], guard := none } (.agg (by8 key).toArray) rfl (by kernel_rfl) (by kernel_rfl) (by kernel_rfl) (by kernel_rfl) (fun _ _ _ h => h) (Or.inl ⟨by rfl, fun w hSw => load27 rfl rfl lk hSw.key⟩) hHeld ?_
    simp only [Act.put, List.setIfInBounds_toArray, List.set_cons_zero, List.set_cons_succ]
    refine takeE 5 { dst := some 13, op := Op.move (Operand.tmp 0), type := 153, pos := "reach.go:95", after := #[], guard := none } (.pointer (some ⟨eb, 0, none⟩)) rfl (by kernel_rfl) (by kernel_rfl) (by kernel_rfl) (by kernel_rfl) (fun _ _ _ h => h) (Or.inl ⟨by rfl, by intro w hSw; clear hSw; go_simp⟩) hHeld ?_
    simp only [Act.put, List.setIfInBounds_toArray, List.set_cons_zero, List.set_cons_succ]
    refine takeE 6 { dst := some 14, op := Op.nilCheck (Operand.tmp 13), type := 0, pos := "reach.go:95", after := #[{ on := 5, ground := Ground.data }], guard := none } (.pointer (some ⟨eb, 0, none⟩)) rfl (by kernel_rfl) (by kernel_rfl) (by kernel_rfl) (by kernel_rfl) (fun _ _ _ h => h) (Or.inl ⟨by rfl, by intro w hSw; clear hSw; go_simp⟩) hHeld ?_
    simp only [Act.put, List.setIfInBounds_toArray, List.set_cons_zero, List.set_cons_succ]
    refine takeE 7 { dst := some 15, op := Op.fieldAddr 145 (Operand.tmp 14) 0, type := 0, pos := "reach.go:95", after := #[{ on := 6, ground := Ground.data }], guard := none } (.pointer (some ⟨eb, 0, none⟩)) rfl (by kernel_rfl) (by kernel_rfl) (by kernel_rfl) (by kernel_rfl) (fun _ _ _ h => h) (Or.inl ⟨by rfl, by intro w hSw; clear hSw; go_simp⟩) hHeld ?_
    simp only [Act.put, List.setIfInBounds_toArray, List.set_cons_zero, List.set_cons_succ]
    refine takeE 8 { dst := some 16, op := Op.fieldAddr 142 (Operand.tmp 15) 0, type := 0, pos := "reach.go:95", after := #[{ on := 7, ground := Ground.data }], guard := none } (.pointer (some ⟨eb, 0, none⟩)) rfl (by kernel_rfl) (by kernel_rfl) (by kernel_rfl) (by kernel_rfl) (fun _ _ _ h => h) (Or.inl ⟨by rfl, by intro w hSw; clear hSw; go_simp⟩) hHeld ?_
    simp only [Act.put, List.setIfInBounds_toArray, List.set_cons_zero, List.set_cons_succ]
    refine takeE 9 { dst := some 17, op := Op.load 27 (Operand.tmp 16), type := 27, pos := "reach.go:95", after := #[{ on := 8, ground := Ground.data }], guard := none } (.agg (by8 key).toArray) rfl (by kernel_rfl) (by kernel_rfl) (by kernel_rfl) (by kernel_rfl) (fun _ _ _ h => h) (Or.inl ⟨by rfl, fun w hSw => load27 rfl rfl lk hSw.key⟩) hHeld ?_
    simp only [Act.put, List.setIfInBounds_toArray, List.set_cons_zero, List.set_cons_succ]
    refine takeE 10 { dst := some 18, op := Op.move (Operand.tmp 0), type := 153, pos := "reach.go:95", after := #[], guard := none } (.pointer (some ⟨eb, 0, none⟩)) rfl (by kernel_rfl) (by kernel_rfl) (by kernel_rfl) (by kernel_rfl) (fun _ _ _ h => h) (Or.inl ⟨by rfl, by intro w hSw; clear hSw; go_simp⟩) hHeld ?_
    simp only [Act.put, List.setIfInBounds_toArray, List.set_cons_zero, List.set_cons_succ]
    refine takeE 11 { dst := some 19, op := Op.nilCheck (Operand.tmp 18), type := 0, pos := "reach.go:95", after := #[{ on := 10, ground := Ground.data }], guard := none } (.pointer (some ⟨eb, 0, none⟩)) rfl (by kernel_rfl) (by kernel_rfl) (by kernel_rfl) (by kernel_rfl) (fun _ _ _ h => h) (Or.inl ⟨by rfl, by intro w hSw; clear hSw; go_simp⟩) hHeld ?_
    simp only [Act.put, List.setIfInBounds_toArray, List.set_cons_zero, List.set_cons_succ]
    refine takeE 12 { dst := some 20, op := Op.fieldAddr 145 (Operand.tmp 19) 1, type := 0, pos := "reach.go:95", after := #[{ on := 11, ground := Ground.data }], guard := none } (.pointer (some ⟨eb, 22, none⟩)) rfl (by kernel_rfl) (by kernel_rfl) (by kernel_rfl) (by kernel_rfl) (fun _ _ _ h => h) (Or.inl ⟨by rfl, by intro w hSw; clear hSw; go_simp⟩) hHeld ?_
    simp only [Act.put, List.setIfInBounds_toArray, List.set_cons_zero, List.set_cons_succ]
    refine takeE 13 { dst := some 21, op := Op.load 27 (Operand.tmp 20), type := 27, pos := "reach.go:95", after := #[{ on := 12, ground := Ground.data }], guard := none } (.agg (by8 far).toArray) rfl (by kernel_rfl) (by kernel_rfl) (by kernel_rfl) (by kernel_rfl) (fun _ _ _ h => h) (Or.inl ⟨by rfl, fun w hSw => load27 rfl rfl lf hSw.far⟩) hHeld ?_
    simp only [Act.put, List.setIfInBounds_toArray, List.set_cons_zero, List.set_cons_succ]
    refine stepE 14 { dst := some 22, op := Op.call { callee := Callee.value (Operand.func 42), args := #[Operand.tmp 17, Operand.tmp 21], argTypes := #[27, 27] }, type := 3, pos := "reach.go:95", after := #[{ on := 9, ground := Ground.data }, { on := 13, ground := Ground.data }], guard := none } rfl (by kernel_rfl) (fun K hK => ?_)
    rw [if_pos (by rfl)]
    refine wp_enter 42 #[.agg (by8 key).toArray, .agg (by8 far).toArray] (by go_simp) (cpl_any W1.drew key far lk lf HK.out HF.out) ?_
    rintro e W2 ⟨rfl, hB2⟩
    refine ⟨_, rfl, ?_⟩
    simp only [Act.put, List.setIfInBounds_toArray, List.set_cons_zero, List.set_cons_succ]
    have hsd : w.heap.size < W1.drew.heap.size := hsz
    have hT2 := hHeld.below hsd hB2
    have hs2 : w.heap.size < W2.heap.size := Nat.lt_of_lt_of_le hsd hB2.size
    refine hK _ _ (fun _ => hT2) ?_
    clear hK K
    refine stepE 15 { dst := some 23, op := Op.call { callee := Callee.value (Operand.func 41), args := #[Operand.tmp 12, Operand.tmp 22], argTypes := #[27, 3] }, type := 139, pos := "reach.go:95", after := #[{ on := 4, ground := Ground.data }, { on := 14, ground := Ground.data }, { on := 14, ground := Ground.chain }], guard := none } rfl (by kernel_rfl) (fun K hK => ?_)
    rw [if_pos (by rfl)]
    refine wp_enter 41 #[.agg (by8 key).toArray, .int .i64 ((cpl key far : Nat) : Int)] (by go_simp) (within_any W2 key (cpl key far) (cpl_dep HK.out HF.out lk lf).le lk HK.out) ?_
    rintro e W3 ⟨rfl, hB3⟩
    refine ⟨_, rfl, ?_⟩
    simp only [Act.put, List.setIfInBounds_toArray, List.set_cons_zero, List.set_cons_succ]
    have hT3 := hT2.below hs2 hB3
    have hs3 : w.heap.size < W3.heap.size := Nat.lt_of_lt_of_le hs2 hB3.size
    have hBW : Below w.heap.size w W3 := (HB1.out.drew.trans (hB2.mono (Nat.le_of_lt hsd))).trans (hB3.mono (Nat.le_of_lt hs2))
    refine hK _ _ (fun _ => hT3) ?_
    clear hK K
    refine stepE 16 { dst := none, op := Op.store 139 (Operand.tmp 2) (Operand.tmp 23), type := 0, pos := "reach.go:95", after := #[{ on := 15, ground := Ground.data }, { on := 15, ground := Ground.chain }, { on := 0, ground := Ground.phase }, { on := 1, ground := Ground.phase }, { on := 2, ground := Ground.phase }, { on := 3, ground := Ground.phase }, { on := 4, ground := Ground.phase }, { on := 5, ground := Ground.phase }, { on := 6, ground := Ground.phase }, { on := 7, ground := Ground.phase }, { on := 8, ground := Ground.phase }, { on := 9, ground := Ground.phase }, { on := 10, ground := Ground.phase }, { on := 11, ground := Ground.phase }, { on := 12, ground := Ground.phase }, { on := 13, ground := Ground.phase }, { on := 14, ground := Ground.phase }, { on := 15, ground := Ground.phase }], guard := none } rfl (by kernel_rfl) (fun K hK => ?_)
    rw [if_pos (by rfl)]
    refine wp_skip' (exec_store139 rfl rfl rfl (pre_length _ _) hT3.res) ?_
    simp only [Act.put]
    have HZ : Hid ((W3.setCells w.heap.size 0 (rcells (cpl key far) (pre key (cpl key far)))).rangeAt w.heap.size 0 (rcells (cpl key far) (pre key (cpl key far))) ∧ Below w.heap.size w (W3.setCells w.heap.size 0 (rcells (cpl key far) (pre key (cpl key far))))) := ⟨World.rangeAt_setCells_same _ _ _ _ (by rw [rcells_length, pre_length]; exact hT3.res), below_setCells (Nat.le_refl _) _ _ _ hBW⟩
    have hT4 : EAt eb w.heap.size key far (W3.setCells w.heap.size 0 (rcells (cpl key far) (pre key (cpl key far)))) := ⟨World.rangeAt_setCells_apart hT3.key _ _ _ (.inl (by omega)), World.rangeAt_setCells_apart hT3.far _ _ _ (.inl (by omega)), World.there_setCells hT3.res _ _ _⟩
    refine hK _ _ (fun _ => hT4) (doneE (by kernel_rfl) (hK2 _ _ ?_) _)
    clear hK K hK2 K2 hT4 hT3 hT2 hBW hB3 hB2 hHeld HS HB1 hwc
    generalize W3.setCells w.heap.size 0 (rcells (cpl key far) (pre key (cpl key far))) = WG at *
    go_wp2
    exact bodyPost_ret (v := rv (cpl key far) (pre key (cpl key far))) (results_cell_mid (P := Yba.prog) (fn := Yba.f30) (p := 2) (ty := 139) rfl _ _ w.heap.size 0 _ _ rfl HZ.out.1 Yba.underlying139 rfl (by rw [rcells_length, pre_length]; exact Yba.size139)) rfl ⟨rfl, HZ.out.2⟩

end Go.Proofs.Ybulkeero
