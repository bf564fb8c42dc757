/- within (function 41). -/
import Derived.Test.YbulkeeroReach
namespace Go.Proofs.Ybulkeero
open Go.RowKit Go.Joins

theorem exec_copy1 {P : Program} {ρ : Operand → Value} {o : Oper} {w : World} {x y : Operand} {dT sT elem : TypeId} (ho : o.op = .call { callee := .builtin .copy, args := #[x, y], argTypes := #[dT, sT] }) {b off n c : Nat} {a : Addr} {m c' : Nat} (hx : ρ x = .slice (some ⟨b, off, none⟩) n c) (hy : ρ y = .slice (some a) m c') (cs : List Value)
    (hu : P.underlying dT = some (.slice elem)) (hs : (P.info? elem).map (·.size) = some 1) (hn : cs.length = Nat.min m n) (hsrc : ∀ j v, cs[j]? = some v → w.cell? (a.add j) = some v) (ht : w.there b off cs.length) (h1 : ∀ v ∈ cs, v.oneCell' = true) :
    (execOp ρ o).run P w = .ok (.value (goInt cs.length)) (w.setCells b off cs) := by
  have hr := run_copy_cells (P := P) w dT sT o.type elem b off n c a m c' cs hu hs hn hsrc (fun j hj => (ht j hj).1) (fun j hj => (ht j hj).2) h1
  unfold execOp
  simp [ho, resolve, invoke, builtin, hx, hy, hr, Result.andThen]
theorem Yba.size5 : (Yba.prog.info? 5).map (·.size) = some 1 := by kernel_rfl
theorem build139 (w : World) (d : Nat) : (Instr.build 139 #[(0, .int .i64 (d : Int))]).run Yba.prog w = .ok (rv d (List.replicate 20 0)) w := by
  simp [go_sem, rv, rcells, by8, List.replicate]
theorem build139z (w : World) : (Instr.build 139 #[]).run Yba.prog w = .ok (rv 0 (List.replicate 20 0)) w := by
  simp [go_sem, rv, rcells, by8, List.replicate]
theorem exec_load139 {ρ : Operand → Value} {o : Oper} {w : World} {x : Operand} (ho : o.op = .load 139 x) {b off d : Nat} (hx : ρ x = .pointer (some ⟨b, off, none⟩)) {P : List Int} (hl : P.length = 20) (hc : w.rangeAt b off (rcells d P)) : (execOp ρ o).run Yba.prog w = .ok (.value (rv d P)) w :=
  exec_load_mid 139 x ho b off hx (rcells d P) _ hc Yba.underlying139 rfl (by rw [rcells_length, hl]; exact Yba.size139)
theorem exec_store139 {ρ : Operand → Value} {o : Oper} {w : World} {x y : Operand} (ho : o.op = .store 139 x y) {b off d : Nat} (hx : ρ x = .pointer (some ⟨b, off, none⟩)) {P : List Int} (hy : ρ y = rv d P) (hl : P.length = 20) (ht : w.there b off 21) : (execOp ρ o).run Yba.prog w = .ok .skip (w.setCells b off (rcells d P)) :=
  exec_store_mid 139 x y ho b off (rcells d P).toArray hx hy (by show World.there _ _ _ (rcells d P).length; rw [rcells_length, hl]; exact ht) (by show _ = some (rcells d P).length; rw [rcells_length, hl]; exact Yba.size139) (all_oneCell_toArray (rcells_one d P))
theorem exec_store5 {ρ : Operand → Value} {o : Oper} {w : World} {x y : Operand} (ho : o.op = .store 5 x y) {b off : Nat} (hx : ρ x = .pointer (some ⟨b, off, none⟩)) {m : Int} (hy : ρ y = .int .u8 m) (ht : w.there b off 1) : (execOp ρ o).run Yba.prog w = .ok .skip (w.setCells b off [.int .u8 m]) := by
  have h0 := ht 0 (by decide)
  obtain ⟨u, hu⟩ := Option.isSome_iff_exists.1 h0.1
  rw [Nat.add_zero] at hu
  have hf := h0.2
  rw [Nat.add_zero] at hf
  unfold execOp
  simp [ho, hx, hy, go_sem, hu, hf, World.setCells]

theorem wpList_same {P : Program} {ops : Array Oper} {rest : List Oper} {Q : Exit → Act → World → Prop} {o : Oper} {a : Act} {w : World} (v : Value) (hgd : o.guard = none) (h : (execOp a.eval o).run P w = .ok (.value v) w) (hk : wpList P ops Q rest (a.put o.dst v) w) : wpList P ops Q (o :: rest) a w := wpList_value hgd h hk
theorem exec_build {P : Program} {ρ : Operand → Value} {o : Oper} {w : World} {t : TypeId} {parts : Array (Nat × Operand)} {vparts : Array (Nat × Value)} {v : Value} (ho : o.op = .build t parts) (hr : (Instr.build t vparts).run P w = .ok v w) (hp : (parts.map fun (i, x) => (i, ρ x)) = vparts) :
    (execOp ρ o).run P w = .ok (.value v) w := by
  unfold execOp
  simp only [ho, hp, Sem.run_bind, hr, Result.andThen_ok, Sem.run_pure]
theorem by8_take' {l : List Int} {n j : Nat} {v : Value} (h : (by8 (l.take n))[j]? = some v) : (by8 l)[j]? = some v := by
  unfold by8 at *
  rw [List.map_take] at h
  have hj := (List.getElem?_eq_some_iff.1 h).1
  rw [List.length_take] at hj
  rw [List.getElem?_take_of_lt (by omega)] at h
  exact h
theorem there_sub' {w : World} {b N o n : Nat} (h : w.there b 0 N) (hn : o + n ≤ N) : w.there b o n := fun j hj => by
  have := h (o + j) (by omega)
  rwa [Nat.zero_add] at this

theorem shl_exec {ρ : Operand → Value} {o : Oper} {w : World} {y : Operand} {t : TypeId} {r : Nat} (ho : o.op = .binOp .shl 5 (.const (.int .u8 255)) y t) (hc : ρ (.const (.int .u8 255)) = .int .u8 255) (hy : ρ y = .int .i64 (8 - (r : Int))) (hr : r ≤ 7) :
    (execOp ρ o).run Yba.prog w = .ok (.value (.int .u8 ((255 * 2 ^ (8 - r) % 256 : Nat) : Int))) w := by
  have hr8 : r = 0 ∨ r = 1 ∨ r = 2 ∨ r = 3 ∨ r = 4 ∨ r = 5 ∨ r = 6 ∨ r = 7 := by omega
  unfold execOp
  rcases hr8 with rfl | rfl | rfl | rfl | rfl | rfl | rfl | rfl <;> simp [ho, hc, hy, go_sem, IntKind.wrap_u8, IntKind.bits]

/-- The ID and the new reach. -/
structure WAt (ib rb nb : Nat) (key : List Int) (d : Nat) (P : List Int) (w : World) : Prop where
  key : w.rangeAt ib 0 (by8 key)
  new : RAt nb d P w
  res : w.there rb 0 21
theorem RAt.set {b d n : Nat} {P Q : List Int} {w : World} {vs : List Value} {o : Nat} (h : RAt b d P w) (hl : P.length = 20) (ho : o + vs.length ≤ 21) (e : laid (rcells d P) o vs = rcells n Q) : RAt b n Q (w.setCells b o vs) :=
  ⟨by rw [← e]; exact range_laid h.range (by rw [rcells_length, hl]; exact h.there) (by rw [rcells_length, hl]; exact ho), World.there_setCells h.there _ _ _⟩
theorem WAt.set {ib rb nb d o : Nat} {key P Q : List Int} {w : World} {vs : List Value} (h : WAt ib rb nb key d P w) (hne : ib ≠ nb) (hl : P.length = 20) (ho : o + vs.length ≤ 21) (e : laid (rcells d P) o vs = rcells d Q) : WAt ib rb nb key d Q (w.setCells nb o vs) :=
  ⟨World.rangeAt_setCells_apart h.key _ _ _ (.inl hne), h.new.set hl ho e, World.there_setCells h.res _ _ _⟩

theorem within_start (w : World) (key : List Int) (d : Nat) (Z1 Z2 : Array Value) (h1 : Z1.size = 21) (h2 : Z2.size = 21) :
    WAt w.heap.size (w.heap.size + 1) (w.heap.size + 1 + 1) key d (List.replicate 20 0) ((((w.alloc (.cells (by8 key).toArray 27)).alloc (.cells Z1 139)).alloc (.cells Z2 139)).setCells (w.heap.size + 1 + 1) 0 (rcells d (List.replicate 20 0))) ∧
      Below w.heap.size w ((((w.alloc (.cells (by8 key).toArray 27)).alloc (.cells Z1 139)).alloc (.cells Z2 139)).setCells (w.heap.size + 1 + 1) 0 (rcells d (List.replicate 20 0))) ∧
      (((w.alloc (.cells (by8 key).toArray 27)).alloc (.cells Z1 139)).alloc (.cells Z2 139)).there (w.heap.size + 1 + 1) 0 21 := by
  have hb : Below w.heap.size w (((w.alloc (.cells (by8 key).toArray 27)).alloc (.cells Z1 139)).alloc (.cells Z2 139)) := (((Below.refl _ w).alloc (Nat.le_refl _) _).alloc (by simp) _).alloc (by simp; omega) _
  have ht : (((w.alloc (.cells (by8 key).toArray 27)).alloc (.cells Z1 139)).alloc (.cells Z2 139)).there (w.heap.size + 1 + 1) 0 21 := by
    have := there_new ((w.alloc (.cells (by8 key).toArray 27)).alloc (.cells Z1 139)) Z2 139 21 h2
    rwa [show ((w.alloc (.cells (by8 key).toArray 27)).alloc (.cells Z1 139)).heap.size = (w.heap.size + 1 + 1) by simp] at this
  have ht1 : ((w.alloc (.cells (by8 key).toArray 27)).alloc (.cells Z1 139)).there (w.heap.size + 1) 0 21 := by
    have := there_new (w.alloc (.cells (by8 key).toArray 27)) Z1 139 21 h1
    rwa [show (w.alloc (.cells (by8 key).toArray 27)).heap.size = (w.heap.size + 1) by simp] at this
  refine ⟨⟨World.rangeAt_setCells_apart (World.rangeAt_alloc (World.rangeAt_alloc (range_new w (by8 key) 27) _) _) _ _ _ (.inl (by omega)), ⟨World.rangeAt_setCells_same _ _ _ _ (by rw [rcells_length, List.length_replicate]; exact ht), World.there_setCells ht _ _ _⟩, World.there_setCells (World.there_alloc ht1 _) _ _ _⟩, below_setCells (by omega) _ _ _ hb, ht⟩

set_option maxHeartbeats 2000000 in
set_option maxRecDepth 20000 in
theorem within_any (w : World) (key : List Int) (d : Nat) (hd : d ≤ 160) (hl : key.length = 20) (hb : Byt key) :
    Calls Yba.prog 41 #[.agg (by8 key).toArray, .int .i64 (d : Int)] w fun e w' => e = .returned (rv d (pre key d)) ∧ Below w.heap.size w w' := by
  obtain ⟨n, hn⟩ : ∃ n, n = d / 8 := ⟨_, rfl⟩
  obtain ⟨r, hr⟩ : ∃ r, r = d % 8 := ⟨_, rfl⟩
  have q1 : (d : Int).tdiv 8 = (n : Int) := by rw [Int.tdiv_eq_ediv_of_nonneg (by omega)]; omega
  have q2 : (d : Int).tmod 8 = (r : Int) := by rw [Int.tmod_eq_emod_of_nonneg (by omega)]; omega
  have n20 : n ≤ 20 := by omega
  have r7 : r ≤ 7 := by omega
  have z0 : (0 : Int) ≤ (n : Int) := by omega
  have z1 : (n : Int) ≤ 20 := by omega
  have HN := hid hn
  have HR := hid hr
  have HB := hid hb
  clear hn hr hb
  go_enter Yba.func41, Yba.ntmps41
  go_upto_region 1 with fail
  rename_i K1 hK1
  refine wp_region_list ?_
  have HS := hid (within_start w key d #[.int .i64 0, .int .u8 0, .int .u8 0, .int .u8 0, .int .u8 0, .int .u8 0, .int .u8 0, .int .u8 0, .int .u8 0, .int .u8 0, .int .u8 0, .int .u8 0, .int .u8 0, .int .u8 0, .int .u8 0, .int .u8 0, .int .u8 0, .int .u8 0, .int .u8 0, .int .u8 0, .int .u8 0] #[.int .i64 0, .int .u8 0, .int .u8 0, .int .u8 0, .int .u8 0, .int .u8 0, .int .u8 0, .int .u8 0, .int .u8 0, .int .u8 0, .int .u8 0, .int .u8 0, .int .u8 0, .int .u8 0, .int .u8 0, .int .u8 0, .int .u8 0, .int .u8 0, .int .u8 0, .int .u8 0, .int .u8 0] rfl rfl)
  refine wpList_same (.int .i64 (d : Int)) rfl (by go_simp) ?_
  simp only [Act.put, List.setIfInBounds_toArray, List.set_cons_zero, List.set_cons_succ]
  refine wpList_value rfl (exec_build rfl (build139 _ d) (by simp only [List.map_toArray, List.map_cons, List.map_nil]; rfl)) ?_
  simp only [Act.put, List.setIfInBounds_toArray, List.set_cons_zero, List.set_cons_succ]
  refine wpList_value (v := .pointer (some ⟨w.heap.size + 1 + 1, 0, none⟩)) (w' := ((w.alloc (.cells (by8 key).toArray 27)).alloc (.cells #[.int .i64 0, .int .u8 0, .int .u8 0, .int .u8 0, .int .u8 0, .int .u8 0, .int .u8 0, .int .u8 0, .int .u8 0, .int .u8 0, .int .u8 0, .int .u8 0, .int .u8 0, .int .u8 0, .int .u8 0, .int .u8 0, .int .u8 0, .int .u8 0, .int .u8 0, .int .u8 0, .int .u8 0] 139)).alloc (.cells #[.int .i64 0, .int .u8 0, .int .u8 0, .int .u8 0, .int .u8 0, .int .u8 0, .int .u8 0, .int .u8 0, .int .u8 0, .int .u8 0, .int .u8 0, .int .u8 0, .int .u8 0, .int .u8 0, .int .u8 0, .int .u8 0, .int .u8 0, .int .u8 0, .int .u8 0, .int .u8 0, .int .u8 0] 139)) rfl (by go_simp) ?_
  simp only [Act.put, List.setIfInBounds_toArray, List.set_cons_zero, List.set_cons_succ]
  refine wpList_skip rfl (exec_store139 rfl rfl rfl (by simp) HS.out.2.2) ?_
  simp only [Act.put]
  have HS1 := hid (And.intro HS.out.1 HS.out.2.1)
  clear HS
  generalize (((w.alloc (.cells (by8 key).toArray 27)).alloc (.cells #[.int .i64 0, .int .u8 0, .int .u8 0, .int .u8 0, .int .u8 0, .int .u8 0, .int .u8 0, .int .u8 0, .int .u8 0, .int .u8 0, .int .u8 0, .int .u8 0, .int .u8 0, .int .u8 0, .int .u8 0, .int .u8 0, .int .u8 0, .int .u8 0, .int .u8 0, .int .u8 0, .int .u8 0] 139)).alloc (.cells #[.int .i64 0, .int .u8 0, .int .u8 0, .int .u8 0, .int .u8 0, .int .u8 0, .int .u8 0, .int .u8 0, .int .u8 0, .int .u8 0, .int .u8 0, .int .u8 0, .int .u8 0, .int .u8 0, .int .u8 0, .int .u8 0, .int .u8 0, .int .u8 0, .int .u8 0, .int .u8 0, .int .u8 0] 139)).setCells (w.heap.size + 1 + 1) 0 (rcells d (List.replicate 20 0)) = W1 at *
  refine wpList_nil (hK1 _ _ ?_)
  clear hK1 K1
  go_upto_region 3 with fail
  rename_i K3 hK3
  refine beginE [] (fun _ : World => True) (by kernel_rfl) trivial (fun hHeld => ?_)
  refine takeE 0 { dst := some 11, op := Op.fieldAddr 139 (Operand.tmp 5) 1, type := 0, pos := "reach.go:19", after := #[], guard := none } (.pointer (some ⟨w.heap.size + 1 + 1, 1, none⟩)) rfl (by kernel_rfl) (by kernel_rfl) (by kernel_rfl) (by kernel_rfl) (fun _ _ _ h => h) (Or.inl ⟨by rfl, by intro w hSw; clear hSw; go_simp⟩) hHeld ?_
  simp only [Act.put, List.setIfInBounds_toArray, List.set_cons_zero, List.set_cons_succ]
  refine takeE 1 { dst := some 12, op := Op.move (Operand.tmp 6), type := 3, pos := "reach.go:19", after := #[], guard := none } (.int .i64 (n : Int)) rfl (by kernel_rfl) (by kernel_rfl) (by kernel_rfl) (by kernel_rfl) (fun _ _ _ h => h) (Or.inl ⟨by rfl, by intro w hSw; clear hSw; go_simp⟩) hHeld ?_
  simp only [Act.put, List.setIfInBounds_toArray, List.set_cons_zero, List.set_cons_succ]
  refine takeE 2 { dst := some 13, op := Op.slice 27 (Operand.tmp 11) none (some (Operand.tmp 12)) none, type := 25, pos := "reach.go:19", after := #[{ on := 0, ground := Ground.data }, { on := 1, ground := Ground.data }], guard := none } (.slice (some ⟨w.heap.size + 1 + 1, 1, none⟩) n 20) rfl (by kernel_rfl) (by kernel_rfl) (by kernel_rfl) (by kernel_rfl) (fun _ _ _ h => h) (Or.inl ⟨by rfl, by intro w hSw; clear hSw; go_simp⟩) hHeld ?_
  simp only [Act.put, List.setIfInBounds_toArray, List.set_cons_zero, List.set_cons_succ]
  refine takeE 3 { dst := some 14, op := Op.move (Operand.tmp 6), type := 3, pos := "reach.go:19", after := #[], guard := none } (.int .i64 (n : Int)) rfl (by kernel_rfl) (by kernel_rfl) (by kernel_rfl) (by kernel_rfl) (fun _ _ _ h => h) (Or.inl ⟨by rfl, by intro w hSw; clear hSw; go_simp⟩) hHeld ?_
  simp only [Act.put, List.setIfInBounds_toArray, List.set_cons_zero, List.set_cons_succ]
  refine takeE 4 { dst := some 15, op := Op.slice 27 (Operand.tmp 2) none (some (Operand.tmp 14)) none, type := 25, pos := "reach.go:19", after := #[{ on := 3, ground := Ground.data }], guard := none } (.slice (some ⟨w.heap.size, 0, none⟩) n 20) rfl (by kernel_rfl) (by kernel_rfl) (by kernel_rfl) (by kernel_rfl) (fun _ _ _ h => h) (Or.inl ⟨by rfl, by intro w hSw; clear hSw; go_simp⟩) hHeld ?_
  simp only [Act.put, List.setIfInBounds_toArray, List.set_cons_zero, List.set_cons_succ]
  refine stepE 5 { dst := some 16, op := Op.call { callee := Callee.builtin Builtin.copy, args := #[Operand.tmp 13, Operand.tmp 15], argTypes := #[25, 25] }, type := 3, pos := "reach.go:19", after := #[{ on := 2, ground := Ground.data }, { on := 4, ground := Ground.data }], guard := none } rfl (by kernel_rfl) (fun K hK => ?_)
  rw [if_pos (by rfl)]
  have hS1 : WAt w.heap.size (w.heap.size + 1) (w.heap.size + 1 + 1) key d (List.replicate 20 0) W1.drew := ⟨(World.rangeAt_drew _ _ _ _).2 HS1.out.1.key, ⟨(World.rangeAt_drew _ _ _ _).2 HS1.out.1.new.range, (World.there_drew _ _ _ _).2 HS1.out.1.new.there⟩, (World.there_drew _ _ _ _).2 HS1.out.1.res⟩
  have htk : (key.take n).length = n := by rw [List.length_take]; omega
  refine wp_value (exec_copy1 rfl rfl rfl (by8 (key.take n)) Yba.underlying25 Yba.size5 (by rw [by8_length, htk]; simp) (fun j v hj => by rw [Addr.add_mid]; exact hS1.key j v (by8_take' hj)) (by rw [by8_length, htk]; exact there_sub' hS1.new.there (by omega)) (by8_one _)) ?_
  simp only [Act.put, List.setIfInBounds_toArray, List.set_cons_zero, List.set_cons_succ]
  have HS2 : Hid (WAt w.heap.size (w.heap.size + 1) (w.heap.size + 1 + 1) key d (key.take n ++ (List.replicate 20 (0 : Int)).drop n) (W1.drew.setCells (w.heap.size + 1 + 1) 1 (by8 (key.take n))) ∧ Below w.heap.size w (W1.drew.setCells (w.heap.size + 1 + 1) 1 (by8 (key.take n)))) := ⟨hS1.set (by omega) (by simp) (by rw [by8_length, htk]; omega) (rcells_copy d n _ _ htk), below_setCells (by omega) _ _ _ HS1.out.2.drew⟩
  clear HS1 hS1
  generalize W1.drew.setCells (w.heap.size + 1 + 1) 1 (by8 (key.take n)) = W2 at *
  refine hK _ _ (fun _ => trivial) (doneE (by kernel_rfl) (hK3 _ _ ?_) _)
  clear hK K hK3 K3 hHeld
  have hpl : (key.take n ++ (List.replicate 20 (0 : Int)).drop n).length = 20 := by simp [hl]; omega
  by_cases hn : n < 20
  case neg =>
    obtain rfl : n = 20 := by omega
    go_upto_region 6 with fail
    have he := pre_full key d hl (by have := HN.out; omega)
    rw [← HN.out] at he
    rw [he] at HS2
    have HF := HS2
    clear HS2
    generalize W2 = WF at *
    rename_i K6 hK6
    refine wp_region_list ?_
    refine wpList_value rfl (exec_load139 rfl rfl (pre_length _ _) HF.out.1.new.range) ?_
    simp only [Act.put, List.setIfInBounds_toArray, List.set_cons_zero, List.set_cons_succ]
    refine wpList_skip rfl (exec_store139 rfl rfl rfl (pre_length _ _) HF.out.1.res) ?_
    simp only [Act.put]
    have HZ : Hid ((WF.setCells (w.heap.size + 1) 0 (rcells d (pre key d))).rangeAt (w.heap.size + 1) 0 (rcells d (pre key d)) ∧ Below w.heap.size w (WF.setCells (w.heap.size + 1) 0 (rcells d (pre key d)))) := ⟨World.rangeAt_setCells_same _ _ _ _ (by rw [rcells_length, pre_length]; exact HF.out.1.res), below_setCells (by omega) _ _ _ HF.out.2⟩
    clear HF
    generalize WF.setCells (w.heap.size + 1) 0 (rcells d (pre key d)) = WG at *
    refine wpList_nil (hK6 _ _ ?_)
    clear hK6 K6
    go_wp2
    exact bodyPost_ret (v := rv d (pre key d)) (results_cell_mid (P := Yba.prog) (fn := Yba.f41) (p := 4) (ty := 139) rfl _ _ (w.heap.size + 1) 0 _ _ rfl HZ.out.1 Yba.underlying139 rfl (by rw [rcells_length, pre_length]; exact Yba.size139)) rfl ⟨rfl, HZ.out.2⟩
  case pos =>
    have z2 : (n : Int) < 20 := by omega
    have hkb := HB.out _ (List.getElem_mem (l := key) (n := n) (by omega))
    have hkg : (by8 key)[n]? = some (.int .u8 key[n]) := by unfold by8; rw [List.getElem?_map, List.getElem?_eq_getElem (by omega)]; rfl
    obtain ⟨M, hM⟩ : ∃ M : Nat, M = 255 * 2 ^ (8 - r) % 256 := ⟨_, rfl⟩
    have hMl : M < 256 := by rw [hM]; exact Nat.mod_lt _ (by decide)
    have hand : bits .and .u8 key[n] (M : Int) = mk key[n] r := by rw [u8_and _ _ hkb.1 (by omega) (by omega) (by omega)]; unfold mk; rw [hM, Int.toNat_natCast]
    have he := pre_eq key d hl (by have := HN.out; omega)
    rw [← HN.out, ← HR.out, List.getD_eq_getElem?_getD, List.getElem?_eq_getElem (by omega), Option.getD_some] at he
    have hM0 := hid hM
    clear hM
    generalize key[n] = kn at *
    generalize mk kn r = km at *
    have q3 : IntKind.i64.wrap (8 - (r : Int)) = 8 - (r : Int) := by rw [IntKind.wrap_i64]; omega
    go_upto_region 5 with fail
    rename_i K5 hK5
    refine beginE [] (fun w' : World => w'.rangeAt w.heap.size 0 (by8 key)) (by kernel_rfl) ((World.rangeAt_drew _ _ _ _).2 HS2.out.1.key) (fun hHeld => ?_)
    refine takeE 0 { dst := some 19, op := Op.move (Operand.tmp 6), type := 3, pos := "reach.go:21", after := #[], guard := none } (.int .i64 (n : Int)) rfl (by kernel_rfl) (by kernel_rfl) (by kernel_rfl) (by kernel_rfl) (fun _ _ _ h => h) (Or.inl ⟨by rfl, by intro w hSw; clear hSw; go_simp⟩) hHeld ?_
    simp only [Act.put, List.setIfInBounds_toArray, List.set_cons_zero, List.set_cons_succ]
    refine takeE 1 { dst := some 20, op := Op.move (Operand.tmp 6), type := 3, pos := "reach.go:21", after := #[], guard := none } (.int .i64 (n : Int)) rfl (by kernel_rfl) (by kernel_rfl) (by kernel_rfl) (by kernel_rfl) (fun _ _ _ h => h) (Or.inl ⟨by rfl, by intro w hSw; clear hSw; go_simp⟩) hHeld ?_
    simp only [Act.put, List.setIfInBounds_toArray, List.set_cons_zero, List.set_cons_succ]
    refine takeE 2 { dst := some 21, op := Op.indexAddr 27 (Operand.tmp 2) (Operand.tmp 20), type := 0, pos := "reach.go:21", after := #[{ on := 1, ground := Ground.data }], guard := none } (.pointer (some ⟨w.heap.size, n, none⟩)) rfl (by kernel_rfl) (by kernel_rfl) (by kernel_rfl) (by kernel_rfl) (fun _ _ _ h => h) (Or.inl ⟨by rfl, by intro w hSw; clear hSw; go_simp⟩) hHeld ?_
    simp only [Act.put, List.setIfInBounds_toArray, List.set_cons_zero, List.set_cons_succ]
    refine takeE 3 { dst := some 22, op := Op.load 5 (Operand.tmp 21), type := 5, pos := "reach.go:21", after := #[{ on := 2, ground := Ground.data }], guard := none } (.int .u8 kn) rfl (by kernel_rfl) (by kernel_rfl) (by kernel_rfl) (by kernel_rfl) (fun _ _ _ h => h) (Or.inl ⟨by rfl, by intro w' hSw; have hSc := hSw n _ hkg; rw [Nat.zero_add] at hSc; clear hSw; go_simp⟩) hHeld ?_
    simp only [Act.put, List.setIfInBounds_toArray, List.set_cons_zero, List.set_cons_succ]
    refine takeE 4 { dst := some 23, op := Op.move (Operand.tmp 1), type := 3, pos := "reach.go:21", after := #[], guard := none } (.int .i64 (d : Int)) rfl (by kernel_rfl) (by kernel_rfl) (by kernel_rfl) (by kernel_rfl) (fun _ _ _ h => h) (Or.inl ⟨by rfl, by intro w hSw; clear hSw; go_simp⟩) hHeld ?_
    simp only [Act.put, List.setIfInBounds_toArray, List.set_cons_zero, List.set_cons_succ]
    refine takeE 5 { dst := some 24, op := Op.binOp BinOp.rem 3 (Operand.tmp 23) (Operand.const (Value.int IntKind.i64 8)) 3, type := 3, pos := "reach.go:21", after := #[{ on := 4, ground := Ground.data }], guard := none } (.int .i64 (r : Int)) rfl (by kernel_rfl) (by kernel_rfl) (by kernel_rfl) (by kernel_rfl) (fun _ _ _ h => h) (Or.inl ⟨by rfl, by intro w hSw; clear hSw; go_simp⟩) hHeld ?_
    simp only [Act.put, List.setIfInBounds_toArray, List.set_cons_zero, List.set_cons_succ]
    refine takeE 6 { dst := some 25, op := Op.binOp BinOp.sub 3 (Operand.const (Value.int IntKind.i64 8)) (Operand.tmp 24) 3, type := 3, pos := "reach.go:21", after := #[{ on := 5, ground := Ground.data }], guard := none } (.int .i64 (8 - (r : Int))) rfl (by kernel_rfl) (by kernel_rfl) (by kernel_rfl) (by kernel_rfl) (fun _ _ _ h => h) (Or.inl ⟨by rfl, by intro w hSw; clear hSw; go_simp⟩) hHeld ?_
    simp only [Act.put, List.setIfInBounds_toArray, List.set_cons_zero, List.set_cons_succ]
    refine takeE 7 { dst := some 26, op := Op.binOp BinOp.shl 5 (Operand.const (Value.int IntKind.u8 255)) (Operand.tmp 25) 3, type := 5, pos := "reach.go:21", after := #[{ on := 6, ground := Ground.data }], guard := none } (.int .u8 (M : Int)) rfl (by kernel_rfl) (by kernel_rfl) (by kernel_rfl) (by kernel_rfl) (fun _ _ _ h => h) (Or.inl ⟨by rfl, fun w' _ => by rw [hM0.out]; exact shl_exec rfl rfl rfl r7⟩) hHeld ?_
    simp only [Act.put, List.setIfInBounds_toArray, List.set_cons_zero, List.set_cons_succ]
    refine takeE 8 { dst := some 27, op := Op.binOp BinOp.and 5 (Operand.tmp 22) (Operand.tmp 26) 5, type := 5, pos := "reach.go:21", after := #[{ on := 3, ground := Ground.data }, { on := 7, ground := Ground.data }], guard := none } (.int .u8 km) rfl (by kernel_rfl) (by kernel_rfl) (by kernel_rfl) (by kernel_rfl) (fun _ _ _ h => h) (Or.inl ⟨by rfl, by intro w hSw; clear hSw; go_simp⟩) hHeld ?_
    simp only [Act.put, List.setIfInBounds_toArray, List.set_cons_zero, List.set_cons_succ]
    refine takeE 9 { dst := some 28, op := Op.fieldAddr 139 (Operand.tmp 5) 1, type := 0, pos := "reach.go:21", after := #[], guard := none } (.pointer (some ⟨w.heap.size + 1 + 1, 1, none⟩)) rfl (by kernel_rfl) (by kernel_rfl) (by kernel_rfl) (by kernel_rfl) (fun _ _ _ h => h) (Or.inl ⟨by rfl, by intro w hSw; clear hSw; go_simp⟩) hHeld ?_
    simp only [Act.put, List.setIfInBounds_toArray, List.set_cons_zero, List.set_cons_succ]
    refine takeE 10 { dst := some 29, op := Op.indexAddr 27 (Operand.tmp 28) (Operand.tmp 19), type := 0, pos := "reach.go:21", after := #[{ on := 9, ground := Ground.data }, { on := 0, ground := Ground.data }, { on := 0, ground := Ground.phase }, { on := 1, ground := Ground.phase }, { on := 2, ground := Ground.phase }, { on := 3, ground := Ground.phase }, { on := 4, ground := Ground.phase }, { on := 5, ground := Ground.phase }, { on := 6, ground := Ground.phase }, { on := 7, ground := Ground.phase }, { on := 8, ground := Ground.phase }], guard := none } (.pointer (some ⟨w.heap.size + 1 + 1, 1 + n, none⟩)) rfl (by kernel_rfl) (by kernel_rfl) (by kernel_rfl) (by kernel_rfl) (fun _ _ _ h => h) (Or.inl ⟨by rfl, by intro w hSw; clear hSw; go_simp⟩) hHeld ?_
    simp only [Act.put, List.setIfInBounds_toArray, List.set_cons_zero, List.set_cons_succ]
    refine stepE 11 { dst := none, op := Op.store 5 (Operand.tmp 29) (Operand.tmp 27), type := 0, pos := "reach.go:21", after := #[{ on := 10, ground := Ground.data }, { on := 8, ground := Ground.data }, { on := 0, ground := Ground.phase }, { on := 1, ground := Ground.phase }, { on := 2, ground := Ground.phase }, { on := 3, ground := Ground.phase }, { on := 4, ground := Ground.phase }, { on := 5, ground := Ground.phase }, { on := 6, ground := Ground.phase }, { on := 7, ground := Ground.phase }, { on := 8, ground := Ground.phase }], guard := none } rfl (by kernel_rfl) (fun K hK => ?_)
    rw [if_pos (by rfl)]
    have hS2 : WAt w.heap.size (w.heap.size + 1) (w.heap.size + 1 + 1) key d (key.take n ++ (List.replicate 20 (0 : Int)).drop n) W2.drew := ⟨(World.rangeAt_drew _ _ _ _).2 HS2.out.1.key, ⟨(World.rangeAt_drew _ _ _ _).2 HS2.out.1.new.range, (World.there_drew _ _ _ _).2 HS2.out.1.new.there⟩, (World.there_drew _ _ _ _).2 HS2.out.1.res⟩
    refine wp_skip' (exec_store5 rfl rfl rfl (there_sub' hS2.new.there (by omega))) ?_
    simp only [Act.put]
    have HF : Hid (WAt w.heap.size (w.heap.size + 1) (w.heap.size + 1 + 1) key d (pre key d) (W2.drew.setCells (w.heap.size + 1 + 1) (1 + n) [.int .u8 km]) ∧ Below w.heap.size w (W2.drew.setCells (w.heap.size + 1 + 1) (1 + n) [.int .u8 km])) := ⟨hS2.set (by omega) hpl (by simp; omega) (by rw [rcells_set d n _ km (by omega), he]), below_setCells (by omega) _ _ _ HS2.out.2.drew⟩
    clear HS2 hS2
    generalize W2.drew.setCells (w.heap.size + 1 + 1) (1 + n) [.int .u8 km] = WF at *
    refine hK _ _ (fun _ => HF.out.1.key) (doneE (by kernel_rfl) (hK5 _ _ ?_) _)
    clear hK K hK5 K5 hHeld hand he hkg
    go_upto_region 6 with fail
    rename_i K6 hK6
    refine wp_region_list ?_
    refine wpList_value rfl (exec_load139 rfl rfl (pre_length _ _) HF.out.1.new.range) ?_
    simp only [Act.put, List.setIfInBounds_toArray, List.set_cons_zero, List.set_cons_succ]
    refine wpList_skip rfl (exec_store139 rfl rfl rfl (pre_length _ _) HF.out.1.res) ?_
    simp only [Act.put]
    have HZ : Hid ((WF.setCells (w.heap.size + 1) 0 (rcells d (pre key d))).rangeAt (w.heap.size + 1) 0 (rcells d (pre key d)) ∧ Below w.heap.size w (WF.setCells (w.heap.size + 1) 0 (rcells d (pre key d)))) := ⟨World.rangeAt_setCells_same _ _ _ _ (by rw [rcells_length, pre_length]; exact HF.out.1.res), below_setCells (by omega) _ _ _ HF.out.2⟩
    clear HF
    generalize WF.setCells (w.heap.size + 1) 0 (rcells d (pre key d)) = WG at *
    refine wpList_nil (hK6 _ _ ?_)
    clear hK6 K6
    go_wp2
    exact bodyPost_ret (v := rv d (pre key d)) (results_cell_mid (P := Yba.prog) (fn := Yba.f41) (p := 4) (ty := 139) rfl _ _ (w.heap.size + 1) 0 _ _ rfl HZ.out.1 Yba.underlying139 rfl (by rw [rcells_length, pre_length]; exact Yba.size139)) rfl ⟨rfl, HZ.out.2⟩

end Go.Proofs.Ybulkeero
