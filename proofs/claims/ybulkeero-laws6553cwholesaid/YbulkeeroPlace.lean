/- place: a record's place (function 32). -/
import Derived.Test.YbulkeeroBuild
import Derived.Deep.RegionLaw
import Derived.Deep.CutRange
import Derived.BigRegion
import Derived.Deep.RegionHeld2
namespace Go.Proofs.Ybulkeero
open Go.RowKit Go.Joins

theorem Yba.size27 : (Yba.prog.info? 27).map (·.size) = some 20 := by kernel_rfl
theorem Yba.size142 : (Yba.prog.info? 142).map (·.size) = some 22 := by kernel_rfl
theorem range_grown {w w' : World} {r : Option Nat} {b o : Nat} {l : List Value} (h : w.rangeAt b o l) (hg : w.grownBy w' r) (hr : r ≠ some b) : w'.rangeAt b o l := fun j v hj => cell_grown (h j v hj) hg hr
theorem range_below {B : Nat} {w w' : World} {b o : Nat} {l : List Value} (h : w.rangeAt b o l) (hb : Below B w w') (hlt : b < B) : w'.rangeAt b o l := fun j v hj => by rw [hb.cell (p := ⟨b, o + j, none⟩) hlt]; exact h j v hj

/-- The operation that builds a slot. -/
theorem build_exec (ρ : Operand → Value) (o : Oper) (x y z : Operand) (w : World) {key : List Int} {kind id : Int} (hl : key.length = 20) (ho : o.op = .build 142 #[(0, x), (1, y), (2, z)])
    (hx : ρ x = .agg (by8 key).toArray) (hy : ρ y = .int .u32 kind) (hz : ρ z = .int .u32 id) :
    (execOp ρ o).run Yba.prog w = .ok (.value (.agg (by8 key ++ [Value.int .u32 kind, Value.int .u32 id]).toArray)) w := by
  unfold execOp
  simp only [ho, List.map_toArray, List.map_cons, List.map_nil, hx, hy, hz, Sem.run_bind, build142 w key kind id hl, Result.andThen_ok, Sem.run_pure]

theorem below_setCells {B : Nat} {a : World} {b : Nat} (hB : B ≤ b) : ∀ (vs : List Value) (o : Nat) (w : World), Below B a w → Below B a (w.setCells b o vs)
  | [], _, _, h => h
  | v :: vs, o, _, h => below_setCells hB vs (o + 1) _ (h.setCell hB v)
theorem grown_of_below {w w' : World} (h : Below w.heap.size w w') : w.grownBy w' none := ⟨h.os, h.tape, h.output, h.size, fun k hk _ => h.block k hk⟩
theorem results_cell_mid {P : Program} {fn : Func} {p : Tmp} {ty : TypeId} (h : fn.results = #[.cell p ty]) (tmps : Array Value) (w : World) (b o : Nat) (cs : List Value) (d : TypeDesc)
    (hp : tmps.getD p undef = .pointer (some ⟨b, o, none⟩)) (hc : w.rangeAt b o cs) (hu : P.underlying ty = some d) (hd : d.isRow = true) (hi : (P.info? ty).map (·.size) = some cs.length) :
    (results fn tmps).run P w = .ok (.agg cs.toArray) w := by
  have hp' : tmps[p]?.getD undef = .pointer (some ⟨b, o, none⟩) := by simpa using hp
  simp [results, h, hp', asAddr, run_loadVar_mid w b o ty cs d hc hu hd hi]

theorem one_place (key : List Int) (kind id : Int) : ∀ v ∈ by8 key ++ [Value.int .u32 kind, Value.int .u32 id], v.oneCell' = true := by
  intro v hv
  rcases List.mem_append.1 hv with h | h
  · obtain ⟨i, -, rfl⟩ := List.mem_map.1 h; rfl
  · simp only [List.mem_cons, List.not_mem_nil, or_false] at h
    rcases h with rfl | rfl <;> rfl

/-- What place reads is there. -/
def PlaceAt (hb : Nat) (key : List Int) (kind id : Int) (w : World) : Prop := w.rangeAt hb 2 (by8 key) ∧ w.cell? ⟨hb, 22, none⟩ = some (.int .u32 kind) ∧ w.cell? ⟨hb, 23, none⟩ = some (.int .u32 id)
theorem PlaceAt.below {hb B : Nat} {key : List Int} {kind id : Int} {w w' : World} (h : PlaceAt hb key kind id w) (hB : Below B w w') (hlt : hb < B) : PlaceAt hb key kind id w' :=
  ⟨range_below h.1 hB hlt, by rw [hB.cell (p := ⟨hb, 22, none⟩) hlt]; exact h.2.1, by rw [hB.cell (p := ⟨hb, 23, none⟩) hlt]; exact h.2.2⟩

/-- What place needs at its second region, in one word. -/
def PlaceS (hb nb : Nat) (key : List Int) (kind id : Int) (w : World) : Prop :=
  w.rangeAt hb 2 (by8 key) ∧ w.cell? ⟨hb, 22, none⟩ = some (.int .u32 kind) ∧ w.cell? ⟨hb, 23, none⟩ = some (.int .u32 id) ∧ w.there nb 0 22

theorem placeS_of (hb : Nat) (key : List Int) (kind id : Int) (w : World) (C : Array Value) (h : PlaceAt hb key kind id w) (hlt : hb < w.heap.size) (hC : C.size = 22) : PlaceS hb w.heap.size key kind id (w.alloc (.cells C 142)).drew := by
  have hB := h.below ((Below.refl w.heap.size w).alloc (Nat.le_refl _) (.cells C 142)).drew hlt
  refine ⟨hB.1, hB.2.1, hB.2.2, fun j hj => ?_⟩
  have hh : (w.alloc (.cells C 142)).drew.heap[w.heap.size]? = some (.cells C 142 (0, 0)) := heap_new w _
  refine ⟨?_, unfrozen_of_block hh _⟩
  rw [cell_of_block hh]
  simp [hC, hj]

set_option maxRecDepth 100000 in
set_option maxHeartbeats 1000000 in
theorem place_any (hb : Nat) (key : List Int) (kind id : Int) (w : World) (hl : key.length = 20) (h : PlaceAt hb key kind id w) (hlt : hb < w.heap.size) :
    Calls Yba.prog 32 #[.pointer (some ⟨hb, 2, none⟩)] w fun e w' => e = .returned (.agg (by8 key ++ [Value.int .u32 kind, Value.int .u32 id]).toArray) ∧ w.grownBy w' none := by
  have HP := hid h
  clear h
  go_enter Yba.func32, Yba.ntmps32
  go_wp2
  have HS := hid (placeS_of hb key kind id w #[.int .u8 0, .int .u8 0, .int .u8 0, .int .u8 0, .int .u8 0, .int .u8 0, .int .u8 0, .int .u8 0, .int .u8 0, .int .u8 0, .int .u8 0, .int .u8 0, .int .u8 0, .int .u8 0, .int .u8 0, .int .u8 0, .int .u8 0, .int .u8 0, .int .u8 0, .int .u8 0, .int .u32 0, .int .u32 0] HP.out hlt rfl)
  refine wp_region_held_drew (S := PlaceS hb w.heap.size key kind id) (by kernel_rfl) HS.out (fun hHeld => ?_)
  refine wpAnyH_take (i := 0) (oi := { dst := some 3, op := Op.move (Operand.tmp 0), type := 157, pos := "record.go:313", after := #[], guard := none }) (v := .pointer (some ⟨hb, 2, none⟩)) rfl (by kernel_rfl) (by kernel_rfl) (by kernel_rfl) (fun _ _ _ h => h) (Or.inl ⟨by rfl, by intro w hSw; obtain ⟨hS1, hS2, hS3, hS4⟩ := hSw; clear hS1 hS4; go_simp⟩) hHeld ?_
  simp only [Act.put, List.setIfInBounds_toArray, List.set_cons_zero, List.set_cons_succ]
  refine wpAnyH_take (i := 1) (oi := { dst := some 4, op := Op.nilCheck (Operand.tmp 3), type := 0, pos := "record.go:313", after := #[{ on := 0, ground := Ground.data }], guard := none }) (v := .pointer (some ⟨hb, 2, none⟩)) rfl (by kernel_rfl) (by kernel_rfl) (by kernel_rfl) (fun _ _ _ h => h) (Or.inl ⟨by rfl, by intro w hSw; obtain ⟨hS1, hS2, hS3, hS4⟩ := hSw; clear hS1 hS4; go_simp⟩) hHeld ?_
  simp only [Act.put, List.setIfInBounds_toArray, List.set_cons_zero, List.set_cons_succ]
  refine wpAnyH_take (i := 2) (oi := { dst := some 5, op := Op.fieldAddr 76 (Operand.tmp 4) 0, type := 0, pos := "record.go:313", after := #[{ on := 1, ground := Ground.data }], guard := none }) (v := .pointer (some ⟨hb, 2, none⟩)) rfl (by kernel_rfl) (by kernel_rfl) (by kernel_rfl) (fun _ _ _ h => h) (Or.inl ⟨by rfl, by intro w hSw; obtain ⟨hS1, hS2, hS3, hS4⟩ := hSw; clear hS1 hS4; go_simp⟩) hHeld ?_
  simp only [Act.put, List.setIfInBounds_toArray, List.set_cons_zero, List.set_cons_succ]
  refine wpAnyH_take (i := 3) (oi := { dst := some 6, op := Op.load 27 (Operand.tmp 5), type := 27, pos := "record.go:313", after := #[{ on := 2, ground := Ground.data }], guard := none }) (v := .agg (by8 key).toArray) rfl (by kernel_rfl) (by kernel_rfl) (by kernel_rfl) (fun _ _ _ h => h) (yieldsIf_load_mid (by rfl) 27 _ rfl hb 2 rfl (by8 key) _ (fun w hS => hS.1) Yba.underlying27 rfl (by rw [by8_length, hl]; exact Yba.size27)) hHeld ?_
  simp only [Act.put, List.setIfInBounds_toArray, List.set_cons_zero, List.set_cons_succ]
  refine wpAnyH_take (i := 4) (oi := { dst := some 7, op := Op.move (Operand.tmp 0), type := 157, pos := "record.go:313", after := #[], guard := none }) (v := .pointer (some ⟨hb, 2, none⟩)) rfl (by kernel_rfl) (by kernel_rfl) (by kernel_rfl) (fun _ _ _ h => h) (Or.inl ⟨by rfl, by intro w hSw; obtain ⟨hS1, hS2, hS3, hS4⟩ := hSw; clear hS1 hS4; go_simp⟩) hHeld ?_
  simp only [Act.put, List.setIfInBounds_toArray, List.set_cons_zero, List.set_cons_succ]
  refine wpAnyH_take (i := 5) (oi := { dst := some 8, op := Op.nilCheck (Operand.tmp 7), type := 0, pos := "record.go:313", after := #[{ on := 4, ground := Ground.data }], guard := none }) (v := .pointer (some ⟨hb, 2, none⟩)) rfl (by kernel_rfl) (by kernel_rfl) (by kernel_rfl) (fun _ _ _ h => h) (Or.inl ⟨by rfl, by intro w hSw; obtain ⟨hS1, hS2, hS3, hS4⟩ := hSw; clear hS1 hS4; go_simp⟩) hHeld ?_
  simp only [Act.put, List.setIfInBounds_toArray, List.set_cons_zero, List.set_cons_succ]
  refine wpAnyH_take (i := 6) (oi := { dst := some 9, op := Op.fieldAddr 76 (Operand.tmp 8) 1, type := 0, pos := "record.go:313", after := #[{ on := 5, ground := Ground.data }], guard := none }) (v := .pointer (some ⟨hb, 22, none⟩)) rfl (by kernel_rfl) (by kernel_rfl) (by kernel_rfl) (fun _ _ _ h => h) (Or.inl ⟨by rfl, by intro w hSw; obtain ⟨hS1, hS2, hS3, hS4⟩ := hSw; clear hS1 hS4; go_simp⟩) hHeld ?_
  simp only [Act.put, List.setIfInBounds_toArray, List.set_cons_zero, List.set_cons_succ]
  refine wpAnyH_take (i := 7) (oi := { dst := some 10, op := Op.load 23 (Operand.tmp 9), type := 23, pos := "record.go:313", after := #[{ on := 6, ground := Ground.data }], guard := none }) (v := .int .u32 kind) rfl (by kernel_rfl) (by kernel_rfl) (by kernel_rfl) (fun _ _ _ h => h) (Or.inl ⟨by rfl, by intro w hSw; obtain ⟨hS1, hS2, hS3, hS4⟩ := hSw; clear hS1 hS4; go_simp⟩) hHeld ?_
  simp only [Act.put, List.setIfInBounds_toArray, List.set_cons_zero, List.set_cons_succ]
  refine wpAnyH_take (i := 8) (oi := { dst := some 11, op := Op.move (Operand.tmp 0), type := 157, pos := "record.go:313", after := #[], guard := none }) (v := .pointer (some ⟨hb, 2, none⟩)) rfl (by kernel_rfl) (by kernel_rfl) (by kernel_rfl) (fun _ _ _ h => h) (Or.inl ⟨by rfl, by intro w hSw; obtain ⟨hS1, hS2, hS3, hS4⟩ := hSw; clear hS1 hS4; go_simp⟩) hHeld ?_
  simp only [Act.put, List.setIfInBounds_toArray, List.set_cons_zero, List.set_cons_succ]
  refine wpAnyH_take (i := 9) (oi := { dst := some 12, op := Op.nilCheck (Operand.tmp 11), type := 0, pos := "record.go:313", after := #[{ on := 8, ground := Ground.data }], guard := none }) (v := .pointer (some ⟨hb, 2, none⟩)) rfl (by kernel_rfl) (by kernel_rfl) (by kernel_rfl) (fun _ _ _ h => h) (Or.inl ⟨by rfl, by intro w hSw; obtain ⟨hS1, hS2, hS3, hS4⟩ := hSw; clear hS1 hS4; go_simp⟩) hHeld ?_
  simp only [Act.put, List.setIfInBounds_toArray, List.set_cons_zero, List.set_cons_succ]
  refine wpAnyH_take (i := 10) (oi := { dst := some 13, op := Op.fieldAddr 76 (Operand.tmp 12) 2, type := 0, pos := "record.go:313", after := #[{ on := 9, ground := Ground.data }], guard := none }) (v := .pointer (some ⟨hb, 23, none⟩)) rfl (by kernel_rfl) (by kernel_rfl) (by kernel_rfl) (fun _ _ _ h => h) (Or.inl ⟨by rfl, by intro w hSw; obtain ⟨hS1, hS2, hS3, hS4⟩ := hSw; clear hS1 hS4; go_simp⟩) hHeld ?_
  simp only [Act.put, List.setIfInBounds_toArray, List.set_cons_zero, List.set_cons_succ]
  refine wpAnyH_take (i := 11) (oi := { dst := some 14, op := Op.load 23 (Operand.tmp 13), type := 23, pos := "record.go:313", after := #[{ on := 10, ground := Ground.data }], guard := none }) (v := .int .u32 id) rfl (by kernel_rfl) (by kernel_rfl) (by kernel_rfl) (fun _ _ _ h => h) (Or.inl ⟨by rfl, by intro w hSw; obtain ⟨hS1, hS2, hS3, hS4⟩ := hSw; clear hS1 hS4; go_simp⟩) hHeld ?_
  simp only [Act.put, List.setIfInBounds_toArray, List.set_cons_zero, List.set_cons_succ]
  refine wpAnyH_take (i := 12) (oi := { dst := some 15, op := Op.build 142 #[(0, Operand.tmp 6), (1, Operand.tmp 10), (2, Operand.tmp 14)], type := 142, pos := "record.go:313", after := #[{ on := 3, ground := Ground.data }, { on := 7, ground := Ground.data }, { on := 11, ground := Ground.data }], guard := none }) (v := .agg (by8 key ++ [Value.int .u32 kind, Value.int .u32 id]).toArray) rfl (by kernel_rfl) (by kernel_rfl) (by kernel_rfl) (fun _ _ _ h => h) (Or.inl ⟨by rfl, fun w _ => (build_exec _ _ _ _ _ _ hl rfl rfl rfl rfl)⟩) hHeld ?_
  simp only [Act.put, List.setIfInBounds_toArray, List.set_cons_zero, List.set_cons_succ]
  refine wpAnyH_ready (rs := [13]) (by kernel_rfl) (by simp) ?_
  refine AllReadyH.cons (o := { dst := none, op := Op.store 142 (Operand.tmp 2) (Operand.tmp 15), type := 0, pos := "record.go:313", after := #[{ on := 12, ground := Ground.data }, { on := 0, ground := Ground.phase }, { on := 1, ground := Ground.phase }, { on := 2, ground := Ground.phase }, { on := 3, ground := Ground.phase }, { on := 4, ground := Ground.phase }, { on := 5, ground := Ground.phase }, { on := 6, ground := Ground.phase }, { on := 7, ground := Ground.phase }, { on := 8, ground := Ground.phase }, { on := 9, ground := Ground.phase }, { on := 10, ground := Ground.phase }, { on := 11, ground := Ground.phase }, { on := 12, ground := Ground.phase }], guard := none }) rfl (fun K hK => ?_) AllReadyH.nil
  rw [if_pos (by rfl)]
  refine wp_store_mid 142 _ _ rfl w.heap.size 0 (by8 key ++ [Value.int .u32 kind, Value.int .u32 id]).toArray rfl rfl ?_ ?_ (all_oneCell_toArray (one_place key kind id)) ?_
  · simp only [List.size_toArray, List.length_append, by8_length, hl, List.length_cons, List.length_nil]; exact hHeld.2.2.2
  · simp only [List.size_toArray, List.length_append, by8_length, hl, List.length_cons, List.length_nil]; exact Yba.size142
  refine hK.out _ _ ?_ (fun hHeld => ?_)
  · exact ⟨World.rangeAt_setCells_apart hHeld.1 _ _ _ (.inl (Nat.ne_of_lt hlt)), by rw [World.cell?_setCells_out _ _ _ _ _ (fun hb' => absurd hb' (Nat.ne_of_lt hlt))]; exact hHeld.2.1, by rw [World.cell?_setCells_out _ _ _ _ _ (fun hb' => absurd hb' (Nat.ne_of_lt hlt))]; exact hHeld.2.2.1, World.there_setCells hHeld.2.2.2 _ _ _⟩
  refine wpAnyH_done (by kernel_rfl) ?_ _
  have hr := World.rangeAt_setCells_same _ w.heap.size 0 (by8 key ++ [Value.int .u32 kind, Value.int .u32 id]) (by simp only [List.length_append, by8_length, hl, List.length_cons, List.length_nil]; exact HS.out.2.2.2)
  have hg := grown_of_below (below_setCells (Nat.le_refl w.heap.size) (by8 key ++ [Value.int .u32 kind, Value.int .u32 id]) 0 _ ((Below.refl w.heap.size w).alloc (Nat.le_refl _) (.cells #[.int .u8 0, .int .u8 0, .int .u8 0, .int .u8 0, .int .u8 0, .int .u8 0, .int .u8 0, .int .u8 0, .int .u8 0, .int .u8 0, .int .u8 0, .int .u8 0, .int .u8 0, .int .u8 0, .int .u8 0, .int .u8 0, .int .u8 0, .int .u8 0, .int .u8 0, .int .u8 0, .int .u32 0, .int .u32 0] 142)).drew)
  have HR := hid hr
  have HG := hid hg
  clear hr hg HS hHeld hK HP
  go_wp2
  exact bodyPost_ret (v := .agg (by8 key ++ [Value.int .u32 kind, Value.int .u32 id]).toArray) (results_cell_mid (P := Yba.prog) (fn := Yba.f32) (p := 2) (ty := 142) rfl _ _ w.heap.size 0 _ _ rfl HR.out Yba.underlying142 rfl (by simp only [List.length_append, by8_length, hl, List.length_cons, List.length_nil]; exact Yba.size142)) rfl ⟨rfl, HG.out⟩

end Go.Proofs.Ybulkeero
