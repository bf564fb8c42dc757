/- tellSpares (function 7). -/
import Derived.Test.YbulkeeroTs
namespace Go.Proofs.Ybulkeero
open Go.RowKit Go.Joins

theorem nilCheck_rtv {ρ : Operand → Value} {o : Oper} {w : World} {x : Operand} (ho : o.op = .nilCheck x) {rb : Nat} (hx : ρ x = rtv rb) : (execOp ρ o).run Yba.prog w = .ok (.value (rtv rb)) w := by
  unfold execOp
  simp [ho, hx, rtv]

/-- The router is new: no rows yet. -/
def S0 : Nat → Row := fun _ => nilRow

theorem wrap_succ (k : Nat) (h : k ≤ 1000000000) : IntKind.i64.wrap ((k : Int) + 1) = (k : Int) + 1 := by rw [IntKind.wrap_i64]; omega
/-- The loop's state, k of the spares gone through. -/
def TellAt (B rb sb hb lb m reps n ob : Nat) (W : World) (r : Rec) (flat me : List Int) (ra : Option Addr) (rc : Nat) (k : Nat) (w : World) : Prop :=
  ∃ s ps, TellTo B rb (.slice (some ⟨lb, 0, none⟩) m m) W S0 r flat me reps k w s ps ∧ TsAt sb hb rb me reps r w ∧
    (w.rangeAt ob 0 (by8 (flat.take (n * 20))) ∧ B ≤ ob ∧ ob < w.heap.size ∧ ∀ k, (s k).val.ownBlock ≠ some ob) ∧
    (w.ownsRow B 5 1 (.slice ra r.later.length rc) r.later.length (by8 r.later) ∧ ∀ k b, (s k).val.ownBlock = some b → (Value.slice ra r.later.length rc).ownBlock ≠ some b)
theorem exec_neq27 {ρ : Operand → Value} {o : Oper} {w : World} {x y : Operand} {t : TypeId} (ho : o.op = .binOp .neq 27 x y t) {a b : List Int} (hx : ρ x = .agg (by8 a).toArray) (hy : ρ y = .agg (by8 b).toArray) (ha : a.length = 20) (hb : b.length = 20) :
    (execOp ρ o).run Yba.prog w = .ok (.value (.bool (!decide (a = b)))) w := by
  unfold execOp
  simp only [ho, hx, hy, Sem.run_bind, run_eqGuard_agg w .neq 27 x y _ _ Yba.eqGuardType27, neq27 w a b ha hb, Result.andThen_ok, Sem.run_pure]
/-- The ids that came back stand as they were. -/
theorem ob_moved {B rb ob : Nat} {idv : Value} {w w' : World} {s s' : Nat → Row} {l : List Value} (h : RtAt B rb idv w s) (hr : w.rangeAt ob 0 l) (hB : B ≤ ob) (hob : ob < w.heap.size) (hap : ∀ k, (s k).val.ownBlock ≠ some ob) (M : Moved B rb idv w s w' s') :
    w'.rangeAt ob 0 l ∧ B ≤ ob ∧ ob < w'.heap.size ∧ ∀ k, (s' k).val.ownBlock ≠ some ob := by
  refine ⟨range_fr hr M.fr ?_, hB, Nat.lt_of_lt_of_le hob M.fr.size, fun k e => ?_⟩
  · rintro (e | ⟨k, e⟩)
    · have := h.lt; omega
    · exact hap k e
  · rcases M.from' k ob e with h1 | h1
    · exact hap k h1
    · omega
theorem own_src {w : World} {base n c : Nat} {a : Option Addr} {xs : List Value} (h : w.ownsRow base 5 1 (.slice a n c) n xs) : Src w a xs := by
  intro hl
  cases a with
  | none =>
    obtain ⟨h1, ⟨_, rfl⟩ | ⟨g, cap, cur, hv, _⟩⟩ := h
    · simp at h1; subst h1; simp at hl
    · cases hv
  | some x =>
    have hx := h.cells (g := x.block) rfl
    obtain ⟨h1, ⟨hv, _⟩ | ⟨g, cap, cur, hv, _⟩⟩ := h
    · cases hv
    · cases hv
      exact ⟨_, rfl, hx⟩
theorem own_nil {w : World} {base c : Nat} {a : Option Addr} {xs : List Value} {l : List Int} (h : w.ownsRow base 5 1 (.slice a l.length c) l.length xs) : a = none → l.length = 0 := by
  rintro rfl
  obtain ⟨h1, ⟨_, h2⟩ | ⟨g, cap, cur, hv, _⟩⟩ := h
  · exact h2
  · cases hv
theorem own_ap {w : World} {base n c rb : Nat} {a : Option Addr} {xs : List Value} {s : Nat → Row} (h : w.ownsRow base 5 1 (.slice a n c) n xs) (hB : rb < base) (hap : ∀ k b, (s k).val.ownBlock = some b → (Value.slice a n c).ownBlock ≠ some b) : ∀ x, a = some x → x.block ≠ rb ∧ ∀ k, (s k).val.ownBlock ≠ some x.block := by
  rintro x rfl
  refine ⟨fun e => ?_, fun k e => hap k _ e rfl⟩
  have := (h.lt x.block rfl).1
  omega
theorem there_fr {w w' : World} {may : Nat → Prop} {b o n : Nat} (h : w.there b o n) (F : Fr w w' may) (hm : ¬ may b) (hlt : b < w.heap.size) : w'.there b o n := fun j hj => by
  obtain ⟨h1, h2⟩ := h j hj
  have e := F.block b hlt hm
  constructor
  · rw [← h1]; unfold World.cell?; simp only [e]
  · rw [← h2]; unfold World.frozen?; simp only [e]
/-- Two may come up. -/
theorem stepE2 {P : Program} {ops : Array Oper} {Q : Exit → Act → World → Prop} {md : Region.Mode} {S : World → Prop} {es : List Nat} (i j : Nat) (o o' : Oper) {fuel : Nat} {listed : Array Bool} {a : Act} {w : World} (ho : ops[i]? = some o) (ho' : ops[j]? = some o') (hr : Region.ready md ops listed = [i, j])
    (h : ∀ K' : Act → World → Prop, (∀ a w, (es.contains i = false → S w) → wpAnyE P md ops Q S es.contains fuel (listed.setIfInBounds i true) a w → K' a w) → if Region.wanted o (yielded ops a.tmps) = true then Oper.wp P o a w K' Q else K' (a.put o.dst undef) w)
    (h' : ∀ K' : Act → World → Prop, (∀ a w, (es.contains j = false → S w) → wpAnyE P md ops Q S es.contains fuel (listed.setIfInBounds j true) a w → K' a w) → if Region.wanted o' (yielded ops a.tmps) = true then Oper.wp P o' a w K' Q else K' (a.put o'.dst undef) w) :
    wpAnyE P md ops Q S es.contains (fuel + 1) listed a w := by
  refine ⟨fun h0 => (by rw [hr] at h0; cases h0), fun k hk => ?_⟩
  rw [hr] at hk
  simp only [List.mem_cons, List.not_mem_nil, or_false] at hk
  rcases hk with rfl | rfl
  · exact wpOp_step ho (fun K' hK => h K' (fun a w hS hW => hK a w ⟨hS, hW⟩))
  · exact wpOp_step ho' (fun K' hK => h' K' (fun a w hS hW => hK a w ⟨hS, hW⟩))
theorem closest_told {B rb m lb reps n ob : Nat} {w w1 : World} {r : Rec} {flat me : List Int} {s1 : Nat → Row} (h : RtAt B rb (.slice (some ⟨lb, 0, none⟩) m m) w S0) (hC : ClosestTo B rb (.slice (some ⟨lb, 0, none⟩) m m) w.drew S0 r.key (reps + 2) n flat w1 s1 ob) :
    TellTo B rb (.slice (some ⟨lb, 0, none⟩) m m) w S0 r flat me reps 0 w1 s1 [] := by
  have e : ∀ k, k ≠ 1 → k ≠ 2 → s1 k = nilRow := fun k h1 h2 => hC.rest k h1 h2
  refine ⟨((Moved.refl h).drew).trans hC.moved, ?_, ?_, ?_, ?_, ?_, ?_, ?_, ?_, ?_, ?_, ?_, ⟨fun p hp => (by cases hp), fun p hp => (by cases hp)⟩⟩
  · rw [hC.x1]; rfl
  · rw [hC.n1]; rfl
  · rw [hC.x2]; simp [S0, nilRow]
  · rw [hC.n2]; rfl
  all_goals first | rfl | (rw [e _ (by decide) (by decide)]; rfl)
theorem later_own {B rb a : Nat} {idv : Value} {w w2 : World} {s : Nat → Row} {l : List Int} {a2 : Option Addr} (h : RtAt B rb idv w s) (hown : w2.ownsRow w.heap.size 5 1 (.slice a2 l.length a) l.length (by8 l)) :
    w2.ownsRow B 5 1 (.slice a2 l.length a) l.length (by8 l) ∧ ∀ k b, (s k).val.ownBlock = some b → (Value.slice a2 l.length a).ownBlock ≠ some b := by
  refine ⟨owns_mono hown h.size, fun k b hk hb => ?_⟩
  have := ((h.own k).lt _ hk).2
  have := (hown.lt _ hb).1
  omega

set_option maxHeartbeats 2000000 in
set_option maxRecDepth 20000 in
theorem tell_any (B rb sb hb lb m reps n : Nat) (w : World) (r : Rec) (flat me : List Int) (hR : RtAt B rb (.slice (some ⟨lb, 0, none⟩) m m) w S0) (hT : TsAt sb hb rb me reps r w) (hf : TsFit B rb sb hb r) (hr : RecFit r) (hme : me.length = 20) (hm : m ≤ 65536) (hreps : reps ≤ 100) (hn : n = min (reps + 2) m)
    (hlb : lb < B) (hlr : lb ≠ rb) (hfl : flat.length = m * 20) (hids : w.rangeAt lb 0 (by8 flat)) :
    Calls Yba.prog 7 #[.pointer (some ⟨sb, 0, none⟩), .pointer (some ⟨hb, 0, none⟩)] w fun e w' => e = .returned (.tuple #[]) ∧ ∃ s ps, TellTo B rb (.slice (some ⟨lb, 0, none⟩) m m) w S0 r flat me reps (n - reps) w' s ps := by
  have HR := hid hR
  have HT := hid hT
  have HF := hid hf
  have HX := hid hr
  have HI := hid hids
  have HN := hid hn
  clear hR hT hf hr hids hn
  have hwr : IntKind.i64.wrap ((reps : Int) + 2) = (reps : Int) + 2 := by rw [IntKind.wrap_i64]; omega
  go_enter Yba.func7, Yba.ntmps7
  go_wp2
  rename_i K0 hK0
  have M0 := (Moved.refl HR.out).drew
  refine beginE [] (TsAt sb hb rb me reps r) (by kernel_rfl) (HT.out.moved HR.out HF.out M0) (fun hHeld => ?_)
  refine takeE 0 { dst := some 10, op := Op.move (Operand.tmp 0), type := 34, pos := "upkeep.go:738", after := #[], guard := none } (.pointer (some ⟨sb, 0, none⟩)) rfl (by kernel_rfl) (by kernel_rfl) (by kernel_rfl) (by kernel_rfl) (fun _ _ _ h => h) (Or.inl ⟨by rfl, by intro w hSw; clear hSw; go_simp⟩) hHeld ?_
  simp only [Act.put, List.setIfInBounds_toArray, List.set_cons_zero, List.set_cons_succ]
  refine takeE 1 { dst := some 11, op := Op.nilCheck (Operand.tmp 10), type := 0, pos := "upkeep.go:738", after := #[{ on := 0, ground := Ground.data }], guard := none } (.pointer (some ⟨sb, 0, none⟩)) rfl (by kernel_rfl) (by kernel_rfl) (by kernel_rfl) (by kernel_rfl) (fun _ _ _ h => h) (Or.inl ⟨by rfl, by intro w hSw; clear hSw; go_simp⟩) hHeld ?_
  simp only [Act.put, List.setIfInBounds_toArray, List.set_cons_zero, List.set_cons_succ]
  refine takeE 2 { dst := some 12, op := Op.fieldAddr 69 (Operand.tmp 11) 0, type := 0, pos := "upkeep.go:738", after := #[{ on := 1, ground := Ground.data }], guard := none } (.pointer (some ⟨sb, 0, none⟩)) rfl (by kernel_rfl) (by kernel_rfl) (by kernel_rfl) (by kernel_rfl) (fun _ _ _ h => h) (Or.inl ⟨by rfl, by intro w hSw; clear hSw; go_simp⟩) hHeld ?_
  simp only [Act.put, List.setIfInBounds_toArray, List.set_cons_zero, List.set_cons_succ]
  refine takeE 3 { dst := some 13, op := Op.load 36 (Operand.tmp 12), type := 36, pos := "upkeep.go:738", after := #[{ on := 2, ground := Ground.data }], guard := none } (rtv rb) rfl (by kernel_rfl) (by kernel_rfl) (by kernel_rfl) (by kernel_rfl) (fun _ _ _ h => h) (Or.inl ⟨by rfl, by intro w hSw; have hSc := hSw.iface; clear hSw; go_simp⟩) hHeld ?_
  simp only [Act.put, List.setIfInBounds_toArray, List.set_cons_zero, List.set_cons_succ]
  refine takeE 4 { dst := some 14, op := Op.move (Operand.tmp 1), type := 71, pos := "upkeep.go:738", after := #[], guard := none } (.pointer (some ⟨hb, 0, none⟩)) rfl (by kernel_rfl) (by kernel_rfl) (by kernel_rfl) (by kernel_rfl) (fun _ _ _ h => h) (Or.inl ⟨by rfl, by intro w hSw; clear hSw; go_simp⟩) hHeld ?_
  simp only [Act.put, List.setIfInBounds_toArray, List.set_cons_zero, List.set_cons_succ]
  refine takeE 5 { dst := some 15, op := Op.nilCheck (Operand.tmp 14), type := 0, pos := "upkeep.go:738", after := #[{ on := 4, ground := Ground.data }], guard := none } (.pointer (some ⟨hb, 0, none⟩)) rfl (by kernel_rfl) (by kernel_rfl) (by kernel_rfl) (by kernel_rfl) (fun _ _ _ h => h) (Or.inl ⟨by rfl, by intro w hSw; clear hSw; go_simp⟩) hHeld ?_
  simp only [Act.put, List.setIfInBounds_toArray, List.set_cons_zero, List.set_cons_succ]
  refine takeE 6 { dst := some 16, op := Op.fieldAddr 82 (Operand.tmp 15) 1, type := 0, pos := "upkeep.go:738", after := #[{ on := 5, ground := Ground.data }], guard := none } (.pointer (some ⟨hb, 2, none⟩)) rfl (by kernel_rfl) (by kernel_rfl) (by kernel_rfl) (by kernel_rfl) (fun _ _ _ h => h) (Or.inl ⟨by rfl, by intro w hSw; clear hSw; go_simp⟩) hHeld ?_
  simp only [Act.put, List.setIfInBounds_toArray, List.set_cons_zero, List.set_cons_succ]
  refine takeE 7 { dst := some 17, op := Op.fieldAddr 76 (Operand.tmp 16) 0, type := 0, pos := "upkeep.go:738", after := #[{ on := 6, ground := Ground.data }], guard := none } (.pointer (some ⟨hb, 2, none⟩)) rfl (by kernel_rfl) (by kernel_rfl) (by kernel_rfl) (by kernel_rfl) (fun _ _ _ h => h) (Or.inl ⟨by rfl, by intro w hSw; clear hSw; go_simp⟩) hHeld ?_
  simp only [Act.put, List.setIfInBounds_toArray, List.set_cons_zero, List.set_cons_succ]
  refine takeE 8 { dst := some 18, op := Op.load 27 (Operand.tmp 17), type := 27, pos := "upkeep.go:738", after := #[{ on := 7, ground := Ground.data }], guard := none } (.agg (by8 r.key).toArray) rfl (by kernel_rfl) (by kernel_rfl) (by kernel_rfl) (by kernel_rfl) (fun _ _ _ h => h) (Or.inl ⟨by rfl, fun w hSw => load27 rfl rfl HX.out.key hSw.rec'.place.1⟩) hHeld ?_
  simp only [Act.put, List.setIfInBounds_toArray, List.set_cons_zero, List.set_cons_succ]
  refine takeE 9 { dst := some 19, op := Op.move (Operand.tmp 0), type := 34, pos := "upkeep.go:738", after := #[], guard := none } (.pointer (some ⟨sb, 0, none⟩)) rfl (by kernel_rfl) (by kernel_rfl) (by kernel_rfl) (by kernel_rfl) (fun _ _ _ h => h) (Or.inl ⟨by rfl, by intro w hSw; clear hSw; go_simp⟩) hHeld ?_
  simp only [Act.put, List.setIfInBounds_toArray, List.set_cons_zero, List.set_cons_succ]
  refine takeE 10 { dst := some 20, op := Op.nilCheck (Operand.tmp 19), type := 0, pos := "upkeep.go:738", after := #[{ on := 9, ground := Ground.data }], guard := none } (.pointer (some ⟨sb, 0, none⟩)) rfl (by kernel_rfl) (by kernel_rfl) (by kernel_rfl) (by kernel_rfl) (fun _ _ _ h => h) (Or.inl ⟨by rfl, by intro w hSw; clear hSw; go_simp⟩) hHeld ?_
  simp only [Act.put, List.setIfInBounds_toArray, List.set_cons_zero, List.set_cons_succ]
  refine takeE 11 { dst := some 21, op := Op.fieldAddr 69 (Operand.tmp 20) 4, type := 0, pos := "upkeep.go:738", after := #[{ on := 10, ground := Ground.data }], guard := none } (.pointer (some ⟨sb, 23, none⟩)) rfl (by kernel_rfl) (by kernel_rfl) (by kernel_rfl) (by kernel_rfl) (fun _ _ _ h => h) (Or.inl ⟨by rfl, by intro w hSw; clear hSw; go_simp⟩) hHeld ?_
  simp only [Act.put, List.setIfInBounds_toArray, List.set_cons_zero, List.set_cons_succ]
  refine takeE 12 { dst := some 22, op := Op.load 3 (Operand.tmp 21), type := 3, pos := "upkeep.go:738", after := #[{ on := 11, ground := Ground.data }], guard := none } (.int .i64 (reps : Int)) rfl (by kernel_rfl) (by kernel_rfl) (by kernel_rfl) (by kernel_rfl) (fun _ _ _ h => h) (Or.inl ⟨by rfl, by intro w hSw; have hSc := hSw.reps; clear hSw; go_simp⟩) hHeld ?_
  simp only [Act.put, List.setIfInBounds_toArray, List.set_cons_zero, List.set_cons_succ]
  refine takeE 13 { dst := some 23, op := Op.binOp BinOp.add 3 (Operand.tmp 22) (Operand.const (Value.int IntKind.i64 2)) 3, type := 3, pos := "upkeep.go:738", after := #[{ on := 12, ground := Ground.data }], guard := none } (.int .i64 ((reps + 2 : Nat) : Int)) rfl (by kernel_rfl) (by kernel_rfl) (by kernel_rfl) (by kernel_rfl) (fun _ _ _ h => h) (Or.inl ⟨by rfl, by intro w hSw; clear hSw; go_simp⟩) hHeld ?_
  simp only [Act.put, List.setIfInBounds_toArray, List.set_cons_zero, List.set_cons_succ]
  refine takeE 14 { dst := some 24, op := Op.nilCheck (Operand.tmp 13), type := 36, pos := "upkeep.go:738", after := #[{ on := 3, ground := Ground.data }], guard := none } (rtv rb) rfl (by kernel_rfl) (by kernel_rfl) (by kernel_rfl) (by kernel_rfl) (fun _ _ _ h => h) (Or.inl ⟨by rfl, fun w _ => nilCheck_rtv rfl rfl⟩) hHeld ?_
  simp only [Act.put, List.setIfInBounds_toArray, List.set_cons_zero, List.set_cons_succ]
  refine takeE 15 { dst := some 25, op := Op.move (Operand.tmp 13), type := 36, pos := "upkeep.go:738", after := #[{ on := 3, ground := Ground.data }, { on := 14, ground := Ground.data }], guard := none } (rtv rb) rfl (by kernel_rfl) (by kernel_rfl) (by kernel_rfl) (by kernel_rfl) (fun _ _ _ h => h) (Or.inl ⟨by rfl, by intro w hSw; clear hSw; go_simp⟩) hHeld ?_
  simp only [Act.put, List.setIfInBounds_toArray, List.set_cons_zero, List.set_cons_succ]
  refine stepE 16 { dst := some 26, op := Op.call { callee := Callee.invoke (Operand.tmp 25) "ClosestIDs", args := #[Operand.tmp 18, Operand.tmp 23], argTypes := #[27, 3] }, type := 28, pos := "upkeep.go:738", after := #[{ on := 15, ground := Ground.data }, { on := 8, ground := Ground.data }, { on := 13, ground := Ground.data }], guard := none } rfl (by kernel_rfl) (fun K hK => ?_)
  rw [if_pos (by rfl)]
  refine wp_enter 70 _ (inv70 rfl rfl rfl rfl) (closest_any B rb lb m w.drew S0 r.key flat (reps + 2) n M0.rt HX.out.key (by decide) (by decide) hm (by omega) HN.out hlb hlr hfl ((World.rangeAt_drew _ _ _ _).2 HI.out)) ?_
  rintro e w1 ⟨s1, ob, rfl, hC⟩
  refine ⟨_, rfl, ?_⟩
  simp only [Act.put, List.setIfInBounds_toArray, List.set_cons_zero, List.set_cons_succ]
  have hS1 := hHeld.moved M0.rt HF.out hC.moved
  have H1 : Hid (TellTo B rb (.slice (some ⟨lb, 0, none⟩) m m) w S0 r flat me reps 0 w1 s1 []) := closest_told HR.out hC
  have HO : Hid (w1.rangeAt ob 0 (by8 (flat.take (n * 20))) ∧ B ≤ ob ∧ ob < w1.heap.size ∧ ∀ k, (s1 k).val.ownBlock ≠ some ob) := ⟨hC.range, Nat.le_trans HR.out.size hC.new.1, hC.new.2, hC.apart⟩
  clear hC
  refine hK _ _ (fun _ => hS1) ?_
  clear hK K
  refine stepE 17 { dst := some 4, op := Op.assign (Operand.tmp 26), type := 28, pos := "upkeep.go:738", after := #[{ on := 16, ground := Ground.data }, { on := 16, ground := Ground.chain }, { on := 0, ground := Ground.phase }, { on := 1, ground := Ground.phase }, { on := 2, ground := Ground.phase }, { on := 3, ground := Ground.phase }, { on := 4, ground := Ground.phase }, { on := 5, ground := Ground.phase }, { on := 6, ground := Ground.phase }, { on := 7, ground := Ground.phase }, { on := 8, ground := Ground.phase }, { on := 9, ground := Ground.phase }, { on := 10, ground := Ground.phase }, { on := 11, ground := Ground.phase }, { on := 12, ground := Ground.phase }, { on := 13, ground := Ground.phase }, { on := 14, ground := Ground.phase }, { on := 15, ground := Ground.phase }, { on := 16, ground := Ground.phase }], guard := none } rfl (by kernel_rfl) (fun K hK => ?_)
  rw [if_pos (by rfl)]
  refine wp_same (.slice (some ⟨ob, 0, none⟩) n n) (by go_simp) ?_
  simp only [Act.put, List.setIfInBounds_toArray, List.set_cons_zero, List.set_cons_succ]
  refine hK _ _ (fun _ => hS1) ?_
  clear hK K
  refine doneE (by kernel_rfl) ?_ _
  refine hK0 _ _ ?_
  clear hK0 K0 hHeld M0
  have HT1 := hid hS1
  have hrp1 := hS1.reps
  clear hS1
  rcases Nat.lt_or_ge reps n with hlt | hge
  case inr =>
    have k1 : (n : Int) ≤ (reps : Int) := by omega
    go_wp2
    exact bodyPost_ret (results_none rfl _ _ _) rfl ⟨rfl, s1, [], by rw [show n - reps = 0 by omega]; exact H1.out⟩
  have k1 : (reps : Int) < (n : Int) := by omega
  have k2 : (0 : Int) ≤ (reps : Int) := by omega
  have k3 : (reps : Int) ≤ (n : Int) := by omega
  go_wp2_with (first
    | (go_at_call 22; refine (later_any hb r _ HT1.out.rec' HX.out).mono ?_; rintro e w2 ⟨a2, c2, rfl, hown2, hg2⟩; have H2 := hid (H1.out.later (Moved.grown H1.out.moved.rt hg2)); have HT2 := hid (HT1.out.moved H1.out.moved.rt HF.out (Moved.grown H1.out.moved.rt hg2)); have HO2 : Hid (w2.rangeAt ob 0 (by8 (flat.take (n * 20))) ∧ B ≤ ob ∧ ob < w2.heap.size ∧ ∀ k, (s1 k).val.ownBlock ≠ some ob) := (⟨range_grown HO.out.1 hg2 (by simp), HO.out.2.1, Nat.lt_of_lt_of_le HO.out.2.2.1 hg2.size, HO.out.2.2.2⟩); have HQ2 : Hid (w2.ownsRow B 5 1 (.slice a2 r.later.length c2) r.later.length (by8 r.later) ∧ ∀ k b, (s1 k).val.ownBlock = some b → (Value.slice a2 r.later.length c2).ownBlock ≠ some b) := (later_own H1.out.moved.rt hown2); have hrp2 := HT2.out.reps; clear hown2 hg2 H1 HT1 HO hrp1))
  go_loopw [45] (fun i wr => ∃ k : Nat, k ≤ n - reps ∧ i = .int .i64 k ∧ Hid (TellAt B rb sb hb lb m reps n ob w r flat me a2 c2 k wr)) (fun i _ => n - reps - (intOf i).toNat)
  case atStart => exact ⟨0, Nat.zero_le _, by rfl, ⟨s1, [], H2.out, HT2.out, HO2.out, HQ2.out⟩⟩
  case round =>
    clear H2 HT2 HO2 HQ2 hrp2
    obtain ⟨k, hk, rfl, HK⟩ := hrel
    by_cases hkn : k < n - reps
    case neg =>
      obtain rfl : k = n - reps := by omega
      go_wp2
      go_end0
      obtain ⟨s, ps, hTell, -⟩ := HK.out
      exact ⟨rfl, s, ps, hTell⟩
    case pos =>
      have j0 : (0 : Int) ≤ (k : Int) := by omega
      have j1 : (k : Int) < ((n - reps : Nat) : Int) := by omega
      have HW := hid (wrap_succ k (by have := HN.out; omega))
      go_upto_region 5 with fail
      refine wp_region_list ?_
      rename_i K9 hK9 K6 hK6
      obtain ⟨s, ps, hTell, hTs, ⟨hrng, hB, hob, hobap⟩, hown, howap⟩ := HK.out
      have hidl : (idAt flat (reps + k)).length = 20 := idAt_length hfl (by have := HN.out; omega)
      have hidr : wr.rangeAt ob ((reps + k) * 20) (by8 (idAt flat (reps + k))) := by
        have := range_idAt (j := reps + k) hrng
        rwa [idAt_take (by omega)] at this
      refine wpList_value (v := .pointer (some ⟨ob, (reps + k) * 20, none⟩)) (w' := wr) rfl (by have e : reps * 20 + k * 20 = (reps + k) * 20 := by omega
                                                                                                go_simp) ?_
      simp only [Act.put, List.setIfInBounds_toArray, List.set_cons_zero, List.set_cons_succ]
      refine wpList_value rfl (load27 rfl rfl hidl hidr) ?_
      simp only [Act.put, List.setIfInBounds_toArray, List.set_cons_zero, List.set_cons_succ]
      refine wpList_value (v := .pointer (some ⟨wr.heap.size, 0, none⟩)) (w' := wr.alloc (.cells #[.int .u8 0, .int .u8 0, .int .u8 0, .int .u8 0, .int .u8 0, .int .u8 0, .int .u8 0, .int .u8 0, .int .u8 0, .int .u8 0, .int .u8 0, .int .u8 0, .int .u8 0, .int .u8 0, .int .u8 0, .int .u8 0, .int .u8 0, .int .u8 0, .int .u8 0, .int .u8 0] 27)) rfl (by go_simp) ?_
      simp only [Act.put, List.setIfInBounds_toArray, List.set_cons_zero, List.set_cons_succ]
      have hth : (wr.alloc (.cells #[.int .u8 0, .int .u8 0, .int .u8 0, .int .u8 0, .int .u8 0, .int .u8 0, .int .u8 0, .int .u8 0, .int .u8 0, .int .u8 0, .int .u8 0, .int .u8 0, .int .u8 0, .int .u8 0, .int .u8 0, .int .u8 0, .int .u8 0, .int .u8 0, .int .u8 0, .int .u8 0] 27)).there wr.heap.size 0 20 := there_new wr _ 27 20 rfl
      have M3 := ((Moved.refl hTell.moved.rt).alloc (.cells #[.int .u8 0, .int .u8 0, .int .u8 0, .int .u8 0, .int .u8 0, .int .u8 0, .int .u8 0, .int .u8 0, .int .u8 0, .int .u8 0, .int .u8 0, .int .u8 0, .int .u8 0, .int .u8 0, .int .u8 0, .int .u8 0, .int .u8 0, .int .u8 0, .int .u8 0, .int .u8 0] 27)).poke (c := wr.heap.size) (grown_setCells _ wr.heap.size 0 (by8 (idAt flat (reps + k)))) hTell.moved.rt.rbLt (Nat.le_refl _) (fun j e => by have := ((hTell.moved.rt.own j).lt _ e).2; omega)
      have hbx := World.rangeAt_setCells_same (wr.alloc (.cells #[.int .u8 0, .int .u8 0, .int .u8 0, .int .u8 0, .int .u8 0, .int .u8 0, .int .u8 0, .int .u8 0, .int .u8 0, .int .u8 0, .int .u8 0, .int .u8 0, .int .u8 0, .int .u8 0, .int .u8 0, .int .u8 0, .int .u8 0, .int .u8 0, .int .u8 0, .int .u8 0] 27)) wr.heap.size 0 (by8 (idAt flat (reps + k))) (by rw [by8_length, hidl]; exact hth)
      refine wpList_skip rfl (exec_store_mid 27 _ _ rfl wr.heap.size 0 (by8 (idAt flat (reps + k))).toArray rfl rfl (by show World.there _ _ _ (by8 (idAt flat (reps + k))).length; rw [by8_length, hidl]; exact hth) (by show _ = some (by8 (idAt flat (reps + k))).length; rw [by8_length, hidl]; exact Yba.size27) (all_oneCell_toArray (by8_one _))) ?_
      simp only [Act.put]
      change wpList _ _ _ _ _ ((wr.alloc (.cells #[.int .u8 0, .int .u8 0, .int .u8 0, .int .u8 0, .int .u8 0, .int .u8 0, .int .u8 0, .int .u8 0, .int .u8 0, .int .u8 0, .int .u8 0, .int .u8 0, .int .u8 0, .int .u8 0, .int .u8 0, .int .u8 0, .int .u8 0, .int .u8 0, .int .u8 0, .int .u8 0] 27)).setCells wr.heap.size 0 (by8 (idAt flat (reps + k))))
      generalize (wr.alloc (.cells #[.int .u8 0, .int .u8 0, .int .u8 0, .int .u8 0, .int .u8 0, .int .u8 0, .int .u8 0, .int .u8 0, .int .u8 0, .int .u8 0, .int .u8 0, .int .u8 0, .int .u8 0, .int .u8 0, .int .u8 0, .int .u8 0, .int .u8 0, .int .u8 0, .int .u8 0, .int .u8 0] 27)).setCells wr.heap.size 0 (by8 (idAt flat (reps + k))) = w3 at *
      have hTs3 := hTs.moved hTell.moved.rt HF.out M3
      have hsz3 : wr.heap.size < w3.heap.size := (block_lt_of_cell (hbx 0 _ (List.getElem?_eq_getElem (by rw [by8_length, hidl]; decide))))
      refine wpList_nil (hK6 _ _ (wp_seq ?_))
      clear hK6 K6 hth
      refine beginE [] (fun w' : World => TsAt sb hb rb me reps r w' ∧ w'.rangeAt wr.heap.size 0 (by8 (idAt flat (reps + k)))) (by kernel_rfl) ⟨hTs3.moved M3.rt HF.out (Moved.refl M3.rt).drew, (World.rangeAt_drew _ _ _ _).2 hbx⟩ (fun hHeld => ?_)
      refine takeE 0 { dst := some 49, op := Op.load 27 (Operand.tmp 7), type := 27, pos := "upkeep.go:744", after := #[], guard := none } (.agg (by8 (idAt flat (reps + k))).toArray) rfl (by kernel_rfl) (by kernel_rfl) (by kernel_rfl) (by kernel_rfl) (fun _ _ _ h => h) (Or.inl ⟨by rfl, fun w hSw => load27 rfl rfl hidl hSw.2⟩) hHeld ?_
      simp only [Act.put, List.setIfInBounds_toArray, List.set_cons_zero, List.set_cons_succ]
      refine takeE 1 { dst := some 50, op := Op.move (Operand.tmp 0), type := 34, pos := "upkeep.go:744", after := #[], guard := none } (.pointer (some ⟨sb, 0, none⟩)) rfl (by kernel_rfl) (by kernel_rfl) (by kernel_rfl) (by kernel_rfl) (fun _ _ _ h => h) (Or.inl ⟨by rfl, by intro w hSw; clear hSw; go_simp⟩) hHeld ?_
      simp only [Act.put, List.setIfInBounds_toArray, List.set_cons_zero, List.set_cons_succ]
      refine takeE 2 { dst := some 51, op := Op.nilCheck (Operand.tmp 50), type := 0, pos := "upkeep.go:744", after := #[{ on := 1, ground := Ground.data }], guard := none } (.pointer (some ⟨sb, 0, none⟩)) rfl (by kernel_rfl) (by kernel_rfl) (by kernel_rfl) (by kernel_rfl) (fun _ _ _ h => h) (Or.inl ⟨by rfl, by intro w hSw; clear hSw; go_simp⟩) hHeld ?_
      simp only [Act.put, List.setIfInBounds_toArray, List.set_cons_zero, List.set_cons_succ]
      refine takeE 3 { dst := some 52, op := Op.fieldAddr 69 (Operand.tmp 51) 3, type := 0, pos := "upkeep.go:744", after := #[{ on := 2, ground := Ground.data }], guard := none } (.pointer (some ⟨sb, 3, none⟩)) rfl (by kernel_rfl) (by kernel_rfl) (by kernel_rfl) (by kernel_rfl) (fun _ _ _ h => h) (Or.inl ⟨by rfl, by intro w hSw; clear hSw; go_simp⟩) hHeld ?_
      simp only [Act.put, List.setIfInBounds_toArray, List.set_cons_zero, List.set_cons_succ]
      refine takeE 4 { dst := some 53, op := Op.load 27 (Operand.tmp 52), type := 27, pos := "upkeep.go:744", after := #[{ on := 3, ground := Ground.data }], guard := none } (.agg (by8 me).toArray) rfl (by kernel_rfl) (by kernel_rfl) (by kernel_rfl) (by kernel_rfl) (fun _ _ _ h => h) (Or.inl ⟨by rfl, fun w hSw => load27 rfl rfl hme hSw.1.mine⟩) hHeld ?_
      simp only [Act.put, List.setIfInBounds_toArray, List.set_cons_zero, List.set_cons_succ]
      refine takeE 5 { dst := some 54, op := Op.binOp BinOp.neq 27 (Operand.tmp 49) (Operand.tmp 53) 27, type := 4, pos := "upkeep.go:744", after := #[{ on := 0, ground := Ground.data }, { on := 4, ground := Ground.data }], guard := none } (.bool (!decide (idAt flat (reps + k) = me))) rfl (by kernel_rfl) (by kernel_rfl) (by kernel_rfl) (by kernel_rfl) (fun _ _ _ h => h) (Or.inl ⟨by rfl, fun w _ => exec_neq27 rfl rfl rfl hidl hme⟩) hHeld ?_
      simp only [Act.put, List.setIfInBounds_toArray, List.set_cons_zero, List.set_cons_succ]
      refine doneE (by kernel_rfl) ?_ _
      have M3' := M3.drew
      have hbx' : w3.drew.rangeAt wr.heap.size 0 (by8 (idAt flat (reps + k))) := (World.rangeAt_drew _ _ _ _).2 hbx
      have hsz3' : wr.heap.size < w3.drew.heap.size := hsz3
      clear hHeld M3 hbx hsz3 hTs3
      generalize w3.drew = w4 at *
      have hTs4 := hTs.moved hTell.moved.rt HF.out M3'
      by_cases hid : idAt flat (reps + k) = me
      case pos =>
        refine wp_cond_false (by show Value.bool (!decide (idAt flat (reps + k) = me)) = Value.bool false; simp [hid]) ?_
        have HK' : Hid (TellAt B rb sb hb lb m reps n ob w r flat me a2 c2 (k + 1) w4) := ⟨s, ps, (hTell.later M3').skip hid, hTs4, ob_moved hTell.moved.rt hrng hB hob hobap M3', own_moved hown hTell.moved.rt.lt howap M3'⟩
        clear hTs4 M3' hbx' hTell hTs hrng hown howap hobap hidr
        have hwk := HW.out
        go_wp2
        clear hwk
        go_roundw
        case rel => exact ⟨k + 1, by omega, by go_num, HK'⟩
        case measure => simp [intOf]; omega
      case neg =>
        refine wp_cond_true (by show Value.bool (!decide (idAt flat (reps + k) = me)) = Value.bool true; simp [hid]) (wp_seq ?_)
        have M4d := (Moved.refl M3'.rt).drew
        have hBx : B ≤ wr.heap.size := hTell.moved.rt.size
        have hbxap : ∀ j, (s j).val.ownBlock ≠ some wr.heap.size := fun j e => by have := ((hTell.moved.rt.own j).lt _ e).2; omega
        have hn3 : (s 3).n ≤ 1000 := by rw [hTell.n3]; have := told_length flat me reps k; have := HN.out; omega
        refine beginE [] (fun w' : World => TsAt sb hb rb me reps r w' ∧ w'.rangeAt wr.heap.size 0 (by8 (idAt flat (reps + k)))) (by kernel_rfl) ⟨hTs4.moved M3'.rt HF.out M4d, (World.rangeAt_drew _ _ _ _).2 hbx'⟩ (fun hHeld => ?_)
        refine takeE 0 { dst := some 56, op := Op.move (Operand.tmp 0), type := 34, pos := "upkeep.go:745", after := #[], guard := none } (.pointer (some ⟨sb, 0, none⟩)) rfl (by kernel_rfl) (by kernel_rfl) (by kernel_rfl) (by kernel_rfl) (fun _ _ _ h => h) (Or.inl ⟨by rfl, by intro w hSw; clear hSw; go_simp⟩) hHeld ?_
        simp only [Act.put, List.setIfInBounds_toArray, List.set_cons_zero, List.set_cons_succ]
        refine takeE 1 { dst := some 57, op := Op.nilCheck (Operand.tmp 56), type := 0, pos := "upkeep.go:745", after := #[{ on := 0, ground := Ground.data }], guard := none } (.pointer (some ⟨sb, 0, none⟩)) rfl (by kernel_rfl) (by kernel_rfl) (by kernel_rfl) (by kernel_rfl) (fun _ _ _ h => h) (Or.inl ⟨by rfl, by intro w hSw; clear hSw; go_simp⟩) hHeld ?_
        simp only [Act.put, List.setIfInBounds_toArray, List.set_cons_zero, List.set_cons_succ]
        refine takeE 2 { dst := some 58, op := Op.fieldAddr 69 (Operand.tmp 57) 0, type := 0, pos := "upkeep.go:745", after := #[{ on := 1, ground := Ground.data }], guard := none } (.pointer (some ⟨sb, 0, none⟩)) rfl (by kernel_rfl) (by kernel_rfl) (by kernel_rfl) (by kernel_rfl) (fun _ _ _ h => h) (Or.inl ⟨by rfl, by intro w hSw; clear hSw; go_simp⟩) hHeld ?_
        simp only [Act.put, List.setIfInBounds_toArray, List.set_cons_zero, List.set_cons_succ]
        refine takeE 3 { dst := some 59, op := Op.load 36 (Operand.tmp 58), type := 36, pos := "upkeep.go:745", after := #[{ on := 2, ground := Ground.data }], guard := none } (rtv rb) rfl (by kernel_rfl) (by kernel_rfl) (by kernel_rfl) (by kernel_rfl) (fun _ _ _ h => h) (Or.inl ⟨by rfl, by intro w hSw; have hSc := hSw.1.iface; clear hSw; go_simp⟩) hHeld ?_
        simp only [Act.put, List.setIfInBounds_toArray, List.set_cons_zero, List.set_cons_succ]
        refine takeE 4 { dst := some 60, op := Op.load 27 (Operand.tmp 7), type := 27, pos := "upkeep.go:745", after := #[], guard := none } (.agg (by8 (idAt flat (reps + k))).toArray) rfl (by kernel_rfl) (by kernel_rfl) (by kernel_rfl) (by kernel_rfl) (fun _ _ _ h => h) (Or.inl ⟨by rfl, fun w hSw => load27 rfl rfl hidl hSw.2⟩) hHeld ?_
        simp only [Act.put, List.setIfInBounds_toArray, List.set_cons_zero, List.set_cons_succ]
        refine stepE2 5 9 { dst := some 61, op := Op.call { callee := Callee.invoke (Operand.tmp 59) "Contact", args := #[Operand.tmp 60], argTypes := #[27] }, type := 163, pos := "upkeep.go:745", after := #[{ on := 3, ground := Ground.data }, { on := 4, ground := Ground.data }], guard := none } { dst := some 8, op := Op.alloc 162, type := 0, pos := "upkeep.go:745", after := #[], guard := none } rfl rfl (by kernel_rfl) (fun K hK => ?_) (fun K hK => ?_)
        case refine_1 =>
          rw [if_pos (by rfl)]
          refine wp_enter 71 _ (inv71 rfl rfl rfl) (contact_any B rb (.slice (some ⟨lb, 0, none⟩) m m) w4.drew s (idAt flat (reps + k)) M4d.rt hidl hn3) ?_
          rintro e w5 ⟨rfl, s5, Mc, x3, n3, e3⟩
          refine ⟨_, rfl, ?_⟩
          simp only [Act.put, List.setIfInBounds_toArray, List.set_cons_zero, List.set_cons_succ]
          have M5 := M4d.trans Mc
          have hS5 : TsAt sb hb rb me reps r w5 ∧ w5.rangeAt wr.heap.size 0 (by8 (idAt flat (reps + k))) := ⟨hTs4.moved M3'.rt HF.out M5, (ob_moved M3'.rt hbx' hBx hsz3' hbxap M5).1⟩
          refine hK _ _ (fun _ => hS5) ?_
          clear hK K
          refine takeE 6 { dst := some 55, op := Op.move (Operand.tmp 61), type := 163, pos := "upkeep.go:745", after := #[{ on := 5, ground := Ground.data }], guard := none } (.tuple #[.agg (by8 (contact (idAt flat (reps + k)))).toArray, .bool true]) rfl (by kernel_rfl) (by kernel_rfl) (by kernel_rfl) (by kernel_rfl) (fun _ _ _ h => h) (Or.inl ⟨by rfl, by intro w hSw; clear hSw; go_simp⟩) hS5 ?_
          simp only [Act.put, List.setIfInBounds_toArray, List.set_cons_zero, List.set_cons_succ]
          refine takeE 7 { dst := some 62, op := Op.extract (Operand.tmp 55) 0, type := 162, pos := "upkeep.go:745", after := #[{ on := 6, ground := Ground.data }], guard := none } (.agg (by8 (contact (idAt flat (reps + k)))).toArray) rfl (by kernel_rfl) (by kernel_rfl) (by kernel_rfl) (by kernel_rfl) (fun _ _ _ h => h) (Or.inl ⟨by rfl, by intro w hSw; clear hSw; go_simp⟩) hS5 ?_
          simp only [Act.put, List.setIfInBounds_toArray, List.set_cons_zero, List.set_cons_succ]
          refine takeE 8 { dst := some 63, op := Op.extract (Operand.tmp 55) 1, type := 4, pos := "upkeep.go:745", after := #[{ on := 6, ground := Ground.data }, { on := 10, ground := Ground.gcOnly Departure.lateStores }], guard := none } (.bool true) rfl (by kernel_rfl) (by kernel_rfl) (by kernel_rfl) (by kernel_rfl) (fun _ _ _ h => h) (Or.inl ⟨by rfl, by intro w hSw; clear hSw; go_simp⟩) hS5 ?_
          simp only [Act.put, List.setIfInBounds_toArray, List.set_cons_zero, List.set_cons_succ]
          refine stepE 9 { dst := some 8, op := Op.alloc 162, type := 0, pos := "upkeep.go:745", after := #[], guard := none } rfl (by kernel_rfl) (fun K hK => ?_)
          rw [if_pos (by rfl)]
          refine wp_value (v := .pointer (some ⟨w5.heap.size, 0, none⟩)) (w' := w5.alloc (.cells #[.int .u8 0, .int .u8 0, .int .u8 0, .int .u8 0, .int .u8 0, .int .u8 0, .int .u8 0, .int .u8 0, .int .u8 0, .int .u8 0, .int .u8 0, .int .u8 0, .int .u8 0, .int .u8 0, .int .u8 0, .int .u8 0, .int .u8 0, .int .u8 0, .int .u8 0, .int .u8 0, .int .u8 0, .int .u8 0, .int .u8 0, .int .u8 0, .int .u8 0, .int .u8 0, .int .u8 0, .int .u8 0, .int .u8 0, .int .u8 0, .int .u8 0, .int .u8 0, .int .u8 0, .int .u8 0, .int .u8 0, .int .u8 0, .int .u8 0, .int .u8 0, .int .u8 0, .int .u8 0, .int .u8 0, .int .u8 0, .int .u8 0, .int .u8 0, .int .u8 0, .int .u8 0, .int .u8 0, .int .u8 0, .int .u8 0, .int .u8 0, .int .u8 0] 162)) (by go_simp) ?_
          simp only [Act.put, List.setIfInBounds_toArray, List.set_cons_zero, List.set_cons_succ]
          have M5a := M5.alloc (.cells #[.int .u8 0, .int .u8 0, .int .u8 0, .int .u8 0, .int .u8 0, .int .u8 0, .int .u8 0, .int .u8 0, .int .u8 0, .int .u8 0, .int .u8 0, .int .u8 0, .int .u8 0, .int .u8 0, .int .u8 0, .int .u8 0, .int .u8 0, .int .u8 0, .int .u8 0, .int .u8 0, .int .u8 0, .int .u8 0, .int .u8 0, .int .u8 0, .int .u8 0, .int .u8 0, .int .u8 0, .int .u8 0, .int .u8 0, .int .u8 0, .int .u8 0, .int .u8 0, .int .u8 0, .int .u8 0, .int .u8 0, .int .u8 0, .int .u8 0, .int .u8 0, .int .u8 0, .int .u8 0, .int .u8 0, .int .u8 0, .int .u8 0, .int .u8 0, .int .u8 0, .int .u8 0, .int .u8 0, .int .u8 0, .int .u8 0, .int .u8 0, .int .u8 0] 162)
          have hth6 : (w5.alloc (.cells #[.int .u8 0, .int .u8 0, .int .u8 0, .int .u8 0, .int .u8 0, .int .u8 0, .int .u8 0, .int .u8 0, .int .u8 0, .int .u8 0, .int .u8 0, .int .u8 0, .int .u8 0, .int .u8 0, .int .u8 0, .int .u8 0, .int .u8 0, .int .u8 0, .int .u8 0, .int .u8 0, .int .u8 0, .int .u8 0, .int .u8 0, .int .u8 0, .int .u8 0, .int .u8 0, .int .u8 0, .int .u8 0, .int .u8 0, .int .u8 0, .int .u8 0, .int .u8 0, .int .u8 0, .int .u8 0, .int .u8 0, .int .u8 0, .int .u8 0, .int .u8 0, .int .u8 0, .int .u8 0, .int .u8 0, .int .u8 0, .int .u8 0, .int .u8 0, .int .u8 0, .int .u8 0, .int .u8 0, .int .u8 0, .int .u8 0, .int .u8 0, .int .u8 0] 162)).there w5.heap.size 0 51 := there_new w5 _ 162 51 rfl
          have hcbap : ∀ j, (s5 j).val.ownBlock ≠ some w5.heap.size := fun j e => by have := ((M5.rt.own j).lt _ e).2; omega
          have hS5a : TsAt sb hb rb me reps r (w5.alloc (.cells #[.int .u8 0, .int .u8 0, .int .u8 0, .int .u8 0, .int .u8 0, .int .u8 0, .int .u8 0, .int .u8 0, .int .u8 0, .int .u8 0, .int .u8 0, .int .u8 0, .int .u8 0, .int .u8 0, .int .u8 0, .int .u8 0, .int .u8 0, .int .u8 0, .int .u8 0, .int .u8 0, .int .u8 0, .int .u8 0, .int .u8 0, .int .u8 0, .int .u8 0, .int .u8 0, .int .u8 0, .int .u8 0, .int .u8 0, .int .u8 0, .int .u8 0, .int .u8 0, .int .u8 0, .int .u8 0, .int .u8 0, .int .u8 0, .int .u8 0, .int .u8 0, .int .u8 0, .int .u8 0, .int .u8 0, .int .u8 0, .int .u8 0, .int .u8 0, .int .u8 0, .int .u8 0, .int .u8 0, .int .u8 0, .int .u8 0, .int .u8 0, .int .u8 0] 162)) ∧ (w5.alloc (.cells #[.int .u8 0, .int .u8 0, .int .u8 0, .int .u8 0, .int .u8 0, .int .u8 0, .int .u8 0, .int .u8 0, .int .u8 0, .int .u8 0, .int .u8 0, .int .u8 0, .int .u8 0, .int .u8 0, .int .u8 0, .int .u8 0, .int .u8 0, .int .u8 0, .int .u8 0, .int .u8 0, .int .u8 0, .int .u8 0, .int .u8 0, .int .u8 0, .int .u8 0, .int .u8 0, .int .u8 0, .int .u8 0, .int .u8 0, .int .u8 0, .int .u8 0, .int .u8 0, .int .u8 0, .int .u8 0, .int .u8 0, .int .u8 0, .int .u8 0, .int .u8 0, .int .u8 0, .int .u8 0, .int .u8 0, .int .u8 0, .int .u8 0, .int .u8 0, .int .u8 0, .int .u8 0, .int .u8 0, .int .u8 0, .int .u8 0, .int .u8 0, .int .u8 0] 162)).rangeAt wr.heap.size 0 (by8 (idAt flat (reps + k))) := ⟨hTs4.moved M3'.rt HF.out M5a, World.rangeAt_alloc hS5.2 _⟩
          refine hK _ _ (fun _ => hS5a) ?_
          clear hK K
          refine stepE 10 { dst := none, op := Op.store 162 (Operand.tmp 8) (Operand.tmp 62), type := 0, pos := "upkeep.go:745", after := #[{ on := 9, ground := Ground.data }, { on := 7, ground := Ground.data }, { on := 5, ground := Ground.chain }, { on := 0, ground := Ground.phase }, { on := 1, ground := Ground.phase }, { on := 2, ground := Ground.phase }, { on := 3, ground := Ground.phase }, { on := 4, ground := Ground.phase }, { on := 5, ground := Ground.phase }, { on := 6, ground := Ground.phase }, { on := 7, ground := Ground.phase }, { on := 8, ground := Ground.textOnly Departure.lateStores }, { on := 9, ground := Ground.phase }], guard := none } rfl (by kernel_rfl) (fun K hK => ?_)
          rw [if_pos (by rfl)]
          refine wp_skip' (exec_store_mid 162 _ _ rfl w5.heap.size 0 (by8 (contact (idAt flat (reps + k)))).toArray rfl rfl (by rw [contact_size hidl]; exact hth6) (by rw [contact_size hidl]; exact Yba.size162) (all_oneCell_toArray (by8_one _))) ?_
          simp only [Act.put]
          change K _ ((w5.alloc (.cells #[.int .u8 0, .int .u8 0, .int .u8 0, .int .u8 0, .int .u8 0, .int .u8 0, .int .u8 0, .int .u8 0, .int .u8 0, .int .u8 0, .int .u8 0, .int .u8 0, .int .u8 0, .int .u8 0, .int .u8 0, .int .u8 0, .int .u8 0, .int .u8 0, .int .u8 0, .int .u8 0, .int .u8 0, .int .u8 0, .int .u8 0, .int .u8 0, .int .u8 0, .int .u8 0, .int .u8 0, .int .u8 0, .int .u8 0, .int .u8 0, .int .u8 0, .int .u8 0, .int .u8 0, .int .u8 0, .int .u8 0, .int .u8 0, .int .u8 0, .int .u8 0, .int .u8 0, .int .u8 0, .int .u8 0, .int .u8 0, .int .u8 0, .int .u8 0, .int .u8 0, .int .u8 0, .int .u8 0, .int .u8 0, .int .u8 0, .int .u8 0, .int .u8 0] 162)).setCells w5.heap.size 0 (by8 (contact (idAt flat (reps + k)))))
          have M6 := M5a.poke (c := w5.heap.size) (grown_setCells (w5.alloc (.cells #[.int .u8 0, .int .u8 0, .int .u8 0, .int .u8 0, .int .u8 0, .int .u8 0, .int .u8 0, .int .u8 0, .int .u8 0, .int .u8 0, .int .u8 0, .int .u8 0, .int .u8 0, .int .u8 0, .int .u8 0, .int .u8 0, .int .u8 0, .int .u8 0, .int .u8 0, .int .u8 0, .int .u8 0, .int .u8 0, .int .u8 0, .int .u8 0, .int .u8 0, .int .u8 0, .int .u8 0, .int .u8 0, .int .u8 0, .int .u8 0, .int .u8 0, .int .u8 0, .int .u8 0, .int .u8 0, .int .u8 0, .int .u8 0, .int .u8 0, .int .u8 0, .int .u8 0, .int .u8 0, .int .u8 0, .int .u8 0, .int .u8 0, .int .u8 0, .int .u8 0, .int .u8 0, .int .u8 0, .int .u8 0, .int .u8 0, .int .u8 0, .int .u8 0] 162)) w5.heap.size 0 (by8 (contact (idAt flat (reps + k))))) M3'.rt.rbLt M5.fr.size hcbap
          have hcb := World.rangeAt_setCells_same (w5.alloc (.cells #[.int .u8 0, .int .u8 0, .int .u8 0, .int .u8 0, .int .u8 0, .int .u8 0, .int .u8 0, .int .u8 0, .int .u8 0, .int .u8 0, .int .u8 0, .int .u8 0, .int .u8 0, .int .u8 0, .int .u8 0, .int .u8 0, .int .u8 0, .int .u8 0, .int .u8 0, .int .u8 0, .int .u8 0, .int .u8 0, .int .u8 0, .int .u8 0, .int .u8 0, .int .u8 0, .int .u8 0, .int .u8 0, .int .u8 0, .int .u8 0, .int .u8 0, .int .u8 0, .int .u8 0, .int .u8 0, .int .u8 0, .int .u8 0, .int .u8 0, .int .u8 0, .int .u8 0, .int .u8 0, .int .u8 0, .int .u8 0, .int .u8 0, .int .u8 0, .int .u8 0, .int .u8 0, .int .u8 0, .int .u8 0, .int .u8 0, .int .u8 0, .int .u8 0] 162)) w5.heap.size 0 (by8 (contact (idAt flat (reps + k)))) (by rw [contact_length hidl]; exact hth6)
          generalize (w5.alloc (.cells #[.int .u8 0, .int .u8 0, .int .u8 0, .int .u8 0, .int .u8 0, .int .u8 0, .int .u8 0, .int .u8 0, .int .u8 0, .int .u8 0, .int .u8 0, .int .u8 0, .int .u8 0, .int .u8 0, .int .u8 0, .int .u8 0, .int .u8 0, .int .u8 0, .int .u8 0, .int .u8 0, .int .u8 0, .int .u8 0, .int .u8 0, .int .u8 0, .int .u8 0, .int .u8 0, .int .u8 0, .int .u8 0, .int .u8 0, .int .u8 0, .int .u8 0, .int .u8 0, .int .u8 0, .int .u8 0, .int .u8 0, .int .u8 0, .int .u8 0, .int .u8 0, .int .u8 0, .int .u8 0, .int .u8 0, .int .u8 0, .int .u8 0, .int .u8 0, .int .u8 0, .int .u8 0, .int .u8 0, .int .u8 0, .int .u8 0, .int .u8 0, .int .u8 0] 162)).setCells w5.heap.size 0 (by8 (contact (idAt flat (reps + k)))) = w6 at *
          have M6w := M3'.trans M6
          have hTs6 := hTs4.moved M3'.rt HF.out M6
          have hcbl : w4.heap.size ≤ w5.heap.size := M5.fr.size
          have hS6 : TsAt sb hb rb me reps r w6 ∧ w6.rangeAt wr.heap.size 0 (by8 (idAt flat (reps + k))) := ⟨hTs6, (ob_moved M3'.rt hbx' hBx hsz3' hbxap M6).1⟩
          have hob6 := ob_moved hTell.moved.rt hrng hB hob hobap M6w
          have hown6 := own_moved hown HR.out.lt howap M6w
          have hn64 : (s5 4).n ≤ 1000 := by rw [e3 4 (by decide), hTell.n4]; have := told_length flat me reps k; have := HN.out; omega
          have hn65 : (s5 5).n ≤ 1000 := by rw [e3 5 (by decide), hTell.n5, hTell.len]; have := told_length flat me reps k; have := HN.out; omega
          refine hK _ _ (fun _ => hS6) ?_
          clear hK K
          refine stepE 11 { dst := some 9, op := Op.assign (Operand.tmp 63), type := 4, pos := "upkeep.go:745", after := #[{ on := 8, ground := Ground.data }, { on := 10, ground := Ground.chain }, { on := 0, ground := Ground.phase }, { on := 1, ground := Ground.phase }, { on := 2, ground := Ground.phase }, { on := 3, ground := Ground.phase }, { on := 4, ground := Ground.phase }, { on := 5, ground := Ground.phase }, { on := 6, ground := Ground.phase }, { on := 7, ground := Ground.phase }, { on := 8, ground := Ground.phase }, { on := 9, ground := Ground.phase }, { on := 10, ground := Ground.phase }], guard := none } rfl (by kernel_rfl) (fun K hK => ?_)
          rw [if_pos (by rfl)]
          refine wp_same (.bool true) (by go_simp) ?_
          simp only [Act.put, List.setIfInBounds_toArray, List.set_cons_zero, List.set_cons_succ]
          refine hK _ _ (fun _ => hS6) ?_
          clear hK K
          refine doneE (by kernel_rfl) ?_ _
          show Code.wp _ _ _ _ _
          clear hS6
          refine beginE [] (fun w' : World => TsAt sb hb rb me reps r w' ∧ w'.rangeAt w5.heap.size 0 (by8 (contact (idAt flat (reps + k))))) (by kernel_rfl) ⟨hTs6.moved M6.rt HF.out (Moved.refl M6.rt).drew, (World.rangeAt_drew _ _ _ _).2 hcb⟩ (fun hHeld8 => ?_)
          refine takeE 0 { dst := some 64, op := Op.move (Operand.tmp 0), type := 34, pos := "upkeep.go:746", after := #[], guard := none } (.pointer (some ⟨sb, 0, none⟩)) rfl (by kernel_rfl) (by kernel_rfl) (by kernel_rfl) (by kernel_rfl) (fun _ _ _ h => h) (Or.inl ⟨by rfl, by intro w hSw; clear hSw; go_simp⟩) hHeld8 ?_
          simp only [Act.put, List.setIfInBounds_toArray, List.set_cons_zero, List.set_cons_succ]
          refine takeE 1 { dst := some 65, op := Op.nilCheck (Operand.tmp 64), type := 0, pos := "upkeep.go:746", after := #[{ on := 0, ground := Ground.data }], guard := none } (.pointer (some ⟨sb, 0, none⟩)) rfl (by kernel_rfl) (by kernel_rfl) (by kernel_rfl) (by kernel_rfl) (fun _ _ _ h => h) (Or.inl ⟨by rfl, by intro w hSw; clear hSw; go_simp⟩) hHeld8 ?_
          simp only [Act.put, List.setIfInBounds_toArray, List.set_cons_zero, List.set_cons_succ]
          refine takeE 2 { dst := some 66, op := Op.fieldAddr 69 (Operand.tmp 65) 0, type := 0, pos := "upkeep.go:746", after := #[{ on := 1, ground := Ground.data }], guard := none } (.pointer (some ⟨sb, 0, none⟩)) rfl (by kernel_rfl) (by kernel_rfl) (by kernel_rfl) (by kernel_rfl) (fun _ _ _ h => h) (Or.inl ⟨by rfl, by intro w hSw; clear hSw; go_simp⟩) hHeld8 ?_
          simp only [Act.put, List.setIfInBounds_toArray, List.set_cons_zero, List.set_cons_succ]
          refine takeE 3 { dst := some 67, op := Op.load 36 (Operand.tmp 66), type := 36, pos := "upkeep.go:746", after := #[{ on := 2, ground := Ground.data }], guard := none } (rtv rb) rfl (by kernel_rfl) (by kernel_rfl) (by kernel_rfl) (by kernel_rfl) (fun _ _ _ h => h) (Or.inl ⟨by rfl, by intro w hSw; have hSc := hSw.1.iface; clear hSw; go_simp⟩) hHeld8 ?_
          simp only [Act.put, List.setIfInBounds_toArray, List.set_cons_zero, List.set_cons_succ]
          refine takeE 4 { dst := some 68, op := Op.load 162 (Operand.tmp 8), type := 162, pos := "upkeep.go:746", after := #[], guard := none } (.agg (by8 (contact (idAt flat (reps + k)))).toArray) rfl (by kernel_rfl) (by kernel_rfl) (by kernel_rfl) (by kernel_rfl) (fun _ _ _ h => h) (Or.inl ⟨by rfl, fun w hSw => exec_load_mid 162 _ rfl _ 0 rfl _ _ hSw.2 Yba.underlying162 rfl (by rw [contact_length hidl]; exact Yba.size162)⟩) hHeld8 ?_
          simp only [Act.put, List.setIfInBounds_toArray, List.set_cons_zero, List.set_cons_succ]
          refine takeE 5 { dst := some 69, op := Op.move (Operand.tmp 5), type := 25, pos := "upkeep.go:746", after := #[], guard := none } (.slice a2 r.later.length c2) rfl (by kernel_rfl) (by kernel_rfl) (by kernel_rfl) (by kernel_rfl) (fun _ _ _ h => h) (Or.inl ⟨by rfl, by intro w hSw; clear hSw; go_simp⟩) hHeld8 ?_
          simp only [Act.put, List.setIfInBounds_toArray, List.set_cons_zero, List.set_cons_succ]
          refine stepE 6 { dst := some 70, op := Op.call { callee := Callee.invoke (Operand.tmp 67) "Call", args := #[Operand.tmp 68, Operand.tmp 69, Operand.func 23], argTypes := #[162, 25, 166] }, type := 0, pos := "upkeep.go:746", after := #[{ on := 3, ground := Ground.data }, { on := 4, ground := Ground.data }, { on := 5, ground := Ground.data }], guard := none } rfl (by kernel_rfl) (fun K hK => ?_)
          rw [if_pos (by rfl)]
          have hq := own_moved hown6.1 HR.out.lt hown6.2 (Moved.refl M6.rt).drew
          refine wp_enter 69 _ (inv69 rfl rfl rfl rfl rfl) (call_any B rb (.slice (some ⟨lb, 0, none⟩) m m) w6.drew s5 (idAt flat (reps + k)) r.later a2 c2 (Moved.refl M6.rt).drew.rt hidl hn64 hn65 (own_src hq.1) (own_nil hq.1) (by rw [Rec.later_length HX.out]; have := HX.out.len; omega) (own_ap hq.1 HR.out.lt hq.2)) ?_
          rintro e w7 ⟨rfl, s7, a7, c7, hC⟩
          refine ⟨_, rfl, ?_⟩
          simp only [Act.put, List.setIfInBounds_toArray, List.set_cons_zero, List.set_cons_succ]
          have M7 := ((Moved.refl M6.rt).drew).trans hC.moved
          have hTs7 := hTs6.moved M6.rt HF.out M7
          have HK' : Hid (TellAt B rb sb hb lb m reps n ob w r flat me a2 c2 (k + 1) w7) := ⟨s7, ps ++ [(a7, c7)], hTell.tell hid M6w.drew x3 n3 e3 hC, hTs7, ob_moved M6.rt hob6.1 hob6.2.1 hob6.2.2.1 hob6.2.2.2 M7, own_moved hown6.1 HR.out.lt hown6.2 M7⟩
          have hcb7 : w7.rangeAt w5.heap.size 0 (by8 (contact (idAt flat (reps + k)))) := range_fr ((World.rangeAt_drew _ _ _ _).2 hcb) hC.moved.fr (by
            rintro (e | ⟨j, e⟩)
            · have := M3'.rt.rbLt; omega
            · exact hcbap j e)
          refine hK _ _ (fun _ => ⟨hTs7, hcb7⟩) (doneE (by kernel_rfl) ?_ _)
          clear hK K hcb7 hTs7 M7 hC hq hown6 hob6 hTs6 M6 M6w hcb hcbap hHeld8 hTs4 hTell hTs hrng hown howap hobap hidr
          have hwk := HW.out
          go_wp2
          clear hwk
          go_roundw
          case rel => exact ⟨k + 1, by omega, by go_num, HK'⟩
          case measure => simp [intOf]; omega
        case refine_2 =>
          rw [if_pos (by rfl)]
          refine wp_value (v := .pointer (some ⟨w4.drew.heap.size, 0, none⟩)) (w' := w4.drew.alloc (.cells #[.int .u8 0, .int .u8 0, .int .u8 0, .int .u8 0, .int .u8 0, .int .u8 0, .int .u8 0, .int .u8 0, .int .u8 0, .int .u8 0, .int .u8 0, .int .u8 0, .int .u8 0, .int .u8 0, .int .u8 0, .int .u8 0, .int .u8 0, .int .u8 0, .int .u8 0, .int .u8 0, .int .u8 0, .int .u8 0, .int .u8 0, .int .u8 0, .int .u8 0, .int .u8 0, .int .u8 0, .int .u8 0, .int .u8 0, .int .u8 0, .int .u8 0, .int .u8 0, .int .u8 0, .int .u8 0, .int .u8 0, .int .u8 0, .int .u8 0, .int .u8 0, .int .u8 0, .int .u8 0, .int .u8 0, .int .u8 0, .int .u8 0, .int .u8 0, .int .u8 0, .int .u8 0, .int .u8 0, .int .u8 0, .int .u8 0, .int .u8 0, .int .u8 0] 162)) (by go_simp) ?_
          simp only [Act.put, List.setIfInBounds_toArray, List.set_cons_zero, List.set_cons_succ]
          have M4a := M4d.alloc (.cells #[.int .u8 0, .int .u8 0, .int .u8 0, .int .u8 0, .int .u8 0, .int .u8 0, .int .u8 0, .int .u8 0, .int .u8 0, .int .u8 0, .int .u8 0, .int .u8 0, .int .u8 0, .int .u8 0, .int .u8 0, .int .u8 0, .int .u8 0, .int .u8 0, .int .u8 0, .int .u8 0, .int .u8 0, .int .u8 0, .int .u8 0, .int .u8 0, .int .u8 0, .int .u8 0, .int .u8 0, .int .u8 0, .int .u8 0, .int .u8 0, .int .u8 0, .int .u8 0, .int .u8 0, .int .u8 0, .int .u8 0, .int .u8 0, .int .u8 0, .int .u8 0, .int .u8 0, .int .u8 0, .int .u8 0, .int .u8 0, .int .u8 0, .int .u8 0, .int .u8 0, .int .u8 0, .int .u8 0, .int .u8 0, .int .u8 0, .int .u8 0, .int .u8 0] 162)
          have hth4 : (w4.drew.alloc (.cells #[.int .u8 0, .int .u8 0, .int .u8 0, .int .u8 0, .int .u8 0, .int .u8 0, .int .u8 0, .int .u8 0, .int .u8 0, .int .u8 0, .int .u8 0, .int .u8 0, .int .u8 0, .int .u8 0, .int .u8 0, .int .u8 0, .int .u8 0, .int .u8 0, .int .u8 0, .int .u8 0, .int .u8 0, .int .u8 0, .int .u8 0, .int .u8 0, .int .u8 0, .int .u8 0, .int .u8 0, .int .u8 0, .int .u8 0, .int .u8 0, .int .u8 0, .int .u8 0, .int .u8 0, .int .u8 0, .int .u8 0, .int .u8 0, .int .u8 0, .int .u8 0, .int .u8 0, .int .u8 0, .int .u8 0, .int .u8 0, .int .u8 0, .int .u8 0, .int .u8 0, .int .u8 0, .int .u8 0, .int .u8 0, .int .u8 0, .int .u8 0, .int .u8 0] 162)).there w4.drew.heap.size 0 51 := there_new w4.drew _ 162 51 rfl
          have hS4a : TsAt sb hb rb me reps r (w4.drew.alloc (.cells #[.int .u8 0, .int .u8 0, .int .u8 0, .int .u8 0, .int .u8 0, .int .u8 0, .int .u8 0, .int .u8 0, .int .u8 0, .int .u8 0, .int .u8 0, .int .u8 0, .int .u8 0, .int .u8 0, .int .u8 0, .int .u8 0, .int .u8 0, .int .u8 0, .int .u8 0, .int .u8 0, .int .u8 0, .int .u8 0, .int .u8 0, .int .u8 0, .int .u8 0, .int .u8 0, .int .u8 0, .int .u8 0, .int .u8 0, .int .u8 0, .int .u8 0, .int .u8 0, .int .u8 0, .int .u8 0, .int .u8 0, .int .u8 0, .int .u8 0, .int .u8 0, .int .u8 0, .int .u8 0, .int .u8 0, .int .u8 0, .int .u8 0, .int .u8 0, .int .u8 0, .int .u8 0, .int .u8 0, .int .u8 0, .int .u8 0, .int .u8 0, .int .u8 0] 162)) ∧ (w4.drew.alloc (.cells #[.int .u8 0, .int .u8 0, .int .u8 0, .int .u8 0, .int .u8 0, .int .u8 0, .int .u8 0, .int .u8 0, .int .u8 0, .int .u8 0, .int .u8 0, .int .u8 0, .int .u8 0, .int .u8 0, .int .u8 0, .int .u8 0, .int .u8 0, .int .u8 0, .int .u8 0, .int .u8 0, .int .u8 0, .int .u8 0, .int .u8 0, .int .u8 0, .int .u8 0, .int .u8 0, .int .u8 0, .int .u8 0, .int .u8 0, .int .u8 0, .int .u8 0, .int .u8 0, .int .u8 0, .int .u8 0, .int .u8 0, .int .u8 0, .int .u8 0, .int .u8 0, .int .u8 0, .int .u8 0, .int .u8 0, .int .u8 0, .int .u8 0, .int .u8 0, .int .u8 0, .int .u8 0, .int .u8 0, .int .u8 0, .int .u8 0, .int .u8 0, .int .u8 0] 162)).rangeAt wr.heap.size 0 (by8 (idAt flat (reps + k))) := ⟨hTs4.moved M3'.rt HF.out M4a, World.rangeAt_alloc ((World.rangeAt_drew _ _ _ _).2 hbx') _⟩
          refine hK _ _ (fun _ => hS4a) ?_
          clear hK K
          refine stepE 5 { dst := some 61, op := Op.call { callee := Callee.invoke (Operand.tmp 59) "Contact", args := #[Operand.tmp 60], argTypes := #[27] }, type := 163, pos := "upkeep.go:745", after := #[{ on := 3, ground := Ground.data }, { on := 4, ground := Ground.data }], guard := none } rfl (by kernel_rfl) (fun K hK => ?_)
          rw [if_pos (by rfl)]
          refine wp_enter 71 _ (inv71 rfl rfl rfl) (contact_any B rb (.slice (some ⟨lb, 0, none⟩) m m) (w4.drew.alloc (.cells #[.int .u8 0, .int .u8 0, .int .u8 0, .int .u8 0, .int .u8 0, .int .u8 0, .int .u8 0, .int .u8 0, .int .u8 0, .int .u8 0, .int .u8 0, .int .u8 0, .int .u8 0, .int .u8 0, .int .u8 0, .int .u8 0, .int .u8 0, .int .u8 0, .int .u8 0, .int .u8 0, .int .u8 0, .int .u8 0, .int .u8 0, .int .u8 0, .int .u8 0, .int .u8 0, .int .u8 0, .int .u8 0, .int .u8 0, .int .u8 0, .int .u8 0, .int .u8 0, .int .u8 0, .int .u8 0, .int .u8 0, .int .u8 0, .int .u8 0, .int .u8 0, .int .u8 0, .int .u8 0, .int .u8 0, .int .u8 0, .int .u8 0, .int .u8 0, .int .u8 0, .int .u8 0, .int .u8 0, .int .u8 0, .int .u8 0, .int .u8 0, .int .u8 0] 162)) s (idAt flat (reps + k)) M4a.rt hidl hn3) ?_
          rintro e w5 ⟨rfl, s5, Mc, x3, n3, e3⟩
          refine ⟨_, rfl, ?_⟩
          simp only [Act.put, List.setIfInBounds_toArray, List.set_cons_zero, List.set_cons_succ]
          have M5 := M4a.trans Mc
          have hS5 : TsAt sb hb rb me reps r w5 ∧ w5.rangeAt wr.heap.size 0 (by8 (idAt flat (reps + k))) := ⟨hTs4.moved M3'.rt HF.out M5, (ob_moved M3'.rt hbx' hBx hsz3' hbxap M5).1⟩
          refine hK _ _ (fun _ => hS5) ?_
          clear hK K
          refine takeE 6 { dst := some 55, op := Op.move (Operand.tmp 61), type := 163, pos := "upkeep.go:745", after := #[{ on := 5, ground := Ground.data }], guard := none } (.tuple #[.agg (by8 (contact (idAt flat (reps + k)))).toArray, .bool true]) rfl (by kernel_rfl) (by kernel_rfl) (by kernel_rfl) (by kernel_rfl) (fun _ _ _ h => h) (Or.inl ⟨by rfl, by intro w hSw; clear hSw; go_simp⟩) hS5 ?_
          simp only [Act.put, List.setIfInBounds_toArray, List.set_cons_zero, List.set_cons_succ]
          refine takeE 7 { dst := some 62, op := Op.extract (Operand.tmp 55) 0, type := 162, pos := "upkeep.go:745", after := #[{ on := 6, ground := Ground.data }], guard := none } (.agg (by8 (contact (idAt flat (reps + k)))).toArray) rfl (by kernel_rfl) (by kernel_rfl) (by kernel_rfl) (by kernel_rfl) (fun _ _ _ h => h) (Or.inl ⟨by rfl, by intro w hSw; clear hSw; go_simp⟩) hS5 ?_
          simp only [Act.put, List.setIfInBounds_toArray, List.set_cons_zero, List.set_cons_succ]
          refine takeE 8 { dst := some 63, op := Op.extract (Operand.tmp 55) 1, type := 4, pos := "upkeep.go:745", after := #[{ on := 6, ground := Ground.data }, { on := 10, ground := Ground.gcOnly Departure.lateStores }], guard := none } (.bool true) rfl (by kernel_rfl) (by kernel_rfl) (by kernel_rfl) (by kernel_rfl) (fun _ _ _ h => h) (Or.inl ⟨by rfl, by intro w hSw; clear hSw; go_simp⟩) hS5 ?_
          simp only [Act.put, List.setIfInBounds_toArray, List.set_cons_zero, List.set_cons_succ]
          have hcbap : ∀ j, (s5 j).val.ownBlock ≠ some w4.drew.heap.size := fun j e => by
            rcases Mc.from' j _ e with h1 | h1
            · have := ((M3'.rt.own j).lt _ h1).2; have e1 : w4.drew.heap.size = w4.heap.size := rfl; omega
            · simp at h1; omega
          have hth6 : w5.there w4.drew.heap.size 0 51 := there_fr hth4 Mc.fr (by
            rintro (e | ⟨j, e⟩)
            · have := M3'.rt.rbLt; have e1 : w4.drew.heap.size = w4.heap.size := rfl; omega
            · have := ((M3'.rt.own j).lt _ e).2; have e1 : w4.drew.heap.size = w4.heap.size := rfl; omega) (by simp)
          refine stepE 10 { dst := none, op := Op.store 162 (Operand.tmp 8) (Operand.tmp 62), type := 0, pos := "upkeep.go:745", after := #[{ on := 9, ground := Ground.data }, { on := 7, ground := Ground.data }, { on := 5, ground := Ground.chain }, { on := 0, ground := Ground.phase }, { on := 1, ground := Ground.phase }, { on := 2, ground := Ground.phase }, { on := 3, ground := Ground.phase }, { on := 4, ground := Ground.phase }, { on := 5, ground := Ground.phase }, { on := 6, ground := Ground.phase }, { on := 7, ground := Ground.phase }, { on := 8, ground := Ground.textOnly Departure.lateStores }, { on := 9, ground := Ground.phase }], guard := none } rfl (by kernel_rfl) (fun K hK => ?_)
          rw [if_pos (by rfl)]
          refine wp_skip' (exec_store_mid 162 _ _ rfl w4.drew.heap.size 0 (by8 (contact (idAt flat (reps + k)))).toArray rfl rfl (by rw [contact_size hidl]; exact hth6) (by rw [contact_size hidl]; exact Yba.size162) (all_oneCell_toArray (by8_one _))) ?_
          simp only [Act.put]
          change K _ (w5.setCells w4.drew.heap.size 0 (by8 (contact (idAt flat (reps + k)))))
          have M6 := M5.poke (c := w4.drew.heap.size) (grown_setCells w5 w4.drew.heap.size 0 (by8 (contact (idAt flat (reps + k))))) M3'.rt.rbLt (Nat.le_refl w4.heap.size) hcbap
          have hcb := World.rangeAt_setCells_same w5 w4.drew.heap.size 0 (by8 (contact (idAt flat (reps + k)))) (by rw [contact_length hidl]; exact hth6)
          generalize w5.setCells w4.drew.heap.size 0 (by8 (contact (idAt flat (reps + k)))) = w6 at *
          have M6w := M3'.trans M6
          have hTs6 := hTs4.moved M3'.rt HF.out M6
          have hcbl : w4.heap.size ≤ w4.drew.heap.size := (Nat.le_refl w4.heap.size)
          have hS6 : TsAt sb hb rb me reps r w6 ∧ w6.rangeAt wr.heap.size 0 (by8 (idAt flat (reps + k))) := ⟨hTs6, (ob_moved M3'.rt hbx' hBx hsz3' hbxap M6).1⟩
          have hob6 := ob_moved hTell.moved.rt hrng hB hob hobap M6w
          have hown6 := own_moved hown HR.out.lt howap M6w
          have hn64 : (s5 4).n ≤ 1000 := by rw [e3 4 (by decide), hTell.n4]; have := told_length flat me reps k; have := HN.out; omega
          have hn65 : (s5 5).n ≤ 1000 := by rw [e3 5 (by decide), hTell.n5, hTell.len]; have := told_length flat me reps k; have := HN.out; omega
          refine hK _ _ (fun _ => hS6) ?_
          clear hK K
          refine stepE 11 { dst := some 9, op := Op.assign (Operand.tmp 63), type := 4, pos := "upkeep.go:745", after := #[{ on := 8, ground := Ground.data }, { on := 10, ground := Ground.chain }, { on := 0, ground := Ground.phase }, { on := 1, ground := Ground.phase }, { on := 2, ground := Ground.phase }, { on := 3, ground := Ground.phase }, { on := 4, ground := Ground.phase }, { on := 5, ground := Ground.phase }, { on := 6, ground := Ground.phase }, { on := 7, ground := Ground.phase }, { on := 8, ground := Ground.phase }, { on := 9, ground := Ground.phase }, { on := 10, ground := Ground.phase }], guard := none } rfl (by kernel_rfl) (fun K hK => ?_)
          rw [if_pos (by rfl)]
          refine wp_same (.bool true) (by go_simp) ?_
          simp only [Act.put, List.setIfInBounds_toArray, List.set_cons_zero, List.set_cons_succ]
          refine hK _ _ (fun _ => hS6) ?_
          clear hK K
          refine doneE (by kernel_rfl) ?_ _
          show Code.wp _ _ _ _ _
          clear hS6
          refine beginE [] (fun w' : World => TsAt sb hb rb me reps r w' ∧ w'.rangeAt w4.drew.heap.size 0 (by8 (contact (idAt flat (reps + k))))) (by kernel_rfl) ⟨hTs6.moved M6.rt HF.out (Moved.refl M6.rt).drew, (World.rangeAt_drew _ _ _ _).2 hcb⟩ (fun hHeld8 => ?_)
          refine takeE 0 { dst := some 64, op := Op.move (Operand.tmp 0), type := 34, pos := "upkeep.go:746", after := #[], guard := none } (.pointer (some ⟨sb, 0, none⟩)) rfl (by kernel_rfl) (by kernel_rfl) (by kernel_rfl) (by kernel_rfl) (fun _ _ _ h => h) (Or.inl ⟨by rfl, by intro w hSw; clear hSw; go_simp⟩) hHeld8 ?_
          simp only [Act.put, List.setIfInBounds_toArray, List.set_cons_zero, List.set_cons_succ]
          refine takeE 1 { dst := some 65, op := Op.nilCheck (Operand.tmp 64), type := 0, pos := "upkeep.go:746", after := #[{ on := 0, ground := Ground.data }], guard := none } (.pointer (some ⟨sb, 0, none⟩)) rfl (by kernel_rfl) (by kernel_rfl) (by kernel_rfl) (by kernel_rfl) (fun _ _ _ h => h) (Or.inl ⟨by rfl, by intro w hSw; clear hSw; go_simp⟩) hHeld8 ?_
          simp only [Act.put, List.setIfInBounds_toArray, List.set_cons_zero, List.set_cons_succ]
          refine takeE 2 { dst := some 66, op := Op.fieldAddr 69 (Operand.tmp 65) 0, type := 0, pos := "upkeep.go:746", after := #[{ on := 1, ground := Ground.data }], guard := none } (.pointer (some ⟨sb, 0, none⟩)) rfl (by kernel_rfl) (by kernel_rfl) (by kernel_rfl) (by kernel_rfl) (fun _ _ _ h => h) (Or.inl ⟨by rfl, by intro w hSw; clear hSw; go_simp⟩) hHeld8 ?_
          simp only [Act.put, List.setIfInBounds_toArray, List.set_cons_zero, List.set_cons_succ]
          refine takeE 3 { dst := some 67, op := Op.load 36 (Operand.tmp 66), type := 36, pos := "upkeep.go:746", after := #[{ on := 2, ground := Ground.data }], guard := none } (rtv rb) rfl (by kernel_rfl) (by kernel_rfl) (by kernel_rfl) (by kernel_rfl) (fun _ _ _ h => h) (Or.inl ⟨by rfl, by intro w hSw; have hSc := hSw.1.iface; clear hSw; go_simp⟩) hHeld8 ?_
          simp only [Act.put, List.setIfInBounds_toArray, List.set_cons_zero, List.set_cons_succ]
          refine takeE 4 { dst := some 68, op := Op.load 162 (Operand.tmp 8), type := 162, pos := "upkeep.go:746", after := #[], guard := none } (.agg (by8 (contact (idAt flat (reps + k)))).toArray) rfl (by kernel_rfl) (by kernel_rfl) (by kernel_rfl) (by kernel_rfl) (fun _ _ _ h => h) (Or.inl ⟨by rfl, fun w hSw => exec_load_mid 162 _ rfl _ 0 rfl _ _ hSw.2 Yba.underlying162 rfl (by rw [contact_length hidl]; exact Yba.size162)⟩) hHeld8 ?_
          simp only [Act.put, List.setIfInBounds_toArray, List.set_cons_zero, List.set_cons_succ]
          refine takeE 5 { dst := some 69, op := Op.move (Operand.tmp 5), type := 25, pos := "upkeep.go:746", after := #[], guard := none } (.slice a2 r.later.length c2) rfl (by kernel_rfl) (by kernel_rfl) (by kernel_rfl) (by kernel_rfl) (fun _ _ _ h => h) (Or.inl ⟨by rfl, by intro w hSw; clear hSw; go_simp⟩) hHeld8 ?_
          simp only [Act.put, List.setIfInBounds_toArray, List.set_cons_zero, List.set_cons_succ]
          refine stepE 6 { dst := some 70, op := Op.call { callee := Callee.invoke (Operand.tmp 67) "Call", args := #[Operand.tmp 68, Operand.tmp 69, Operand.func 23], argTypes := #[162, 25, 166] }, type := 0, pos := "upkeep.go:746", after := #[{ on := 3, ground := Ground.data }, { on := 4, ground := Ground.data }, { on := 5, ground := Ground.data }], guard := none } rfl (by kernel_rfl) (fun K hK => ?_)
          rw [if_pos (by rfl)]
          have hq := own_moved hown6.1 HR.out.lt hown6.2 (Moved.refl M6.rt).drew
          refine wp_enter 69 _ (inv69 rfl rfl rfl rfl rfl) (call_any B rb (.slice (some ⟨lb, 0, none⟩) m m) w6.drew s5 (idAt flat (reps + k)) r.later a2 c2 (Moved.refl M6.rt).drew.rt hidl hn64 hn65 (own_src hq.1) (own_nil hq.1) (by rw [Rec.later_length HX.out]; have := HX.out.len; omega) (own_ap hq.1 HR.out.lt hq.2)) ?_
          rintro e w7 ⟨rfl, s7, a7, c7, hC⟩
          refine ⟨_, rfl, ?_⟩
          simp only [Act.put, List.setIfInBounds_toArray, List.set_cons_zero, List.set_cons_succ]
          have M7 := ((Moved.refl M6.rt).drew).trans hC.moved
          have hTs7 := hTs6.moved M6.rt HF.out M7
          have HK' : Hid (TellAt B rb sb hb lb m reps n ob w r flat me a2 c2 (k + 1) w7) := ⟨s7, ps ++ [(a7, c7)], hTell.tell hid M6w.drew x3 n3 e3 hC, hTs7, ob_moved M6.rt hob6.1 hob6.2.1 hob6.2.2.1 hob6.2.2.2 M7, own_moved hown6.1 HR.out.lt hown6.2 M7⟩
          have hcb7 : w7.rangeAt w4.drew.heap.size 0 (by8 (contact (idAt flat (reps + k)))) := range_fr ((World.rangeAt_drew _ _ _ _).2 hcb) hC.moved.fr (by
            rintro (e | ⟨j, e⟩)
            · have := M3'.rt.rbLt; omega
            · exact hcbap j e)
          refine hK _ _ (fun _ => ⟨hTs7, hcb7⟩) (doneE (by kernel_rfl) ?_ _)
          clear hK K hcb7 hTs7 M7 hC hq hown6 hob6 hTs6 M6 M6w hcb hcbap hHeld8 hTs4 hTell hTs hrng hown howap hobap hidr
          have hwk := HW.out
          go_wp2
          clear hwk
          go_roundw
          case rel => exact ⟨k + 1, by omega, by go_num, HK'⟩
          case measure => simp [intOf]; omega

end Go.Proofs.Ybulkeero
