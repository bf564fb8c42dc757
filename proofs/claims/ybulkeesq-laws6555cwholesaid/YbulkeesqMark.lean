/- The law on Mark: its walk. -/
import Derived.Test.YbulkeesqWalks
import Derived.Test.YbulkeesqMarkNew
import Derived.Deep.RegionWith
namespace Go.Proofs.Ybulkeesq
open Go.RowKit

theorem bcell {B : Nat} {W w1 : World} (hb : Below B W w1) : (∀ b o, b < B → w1.cell? ⟨b, o, none⟩ = W.cell? ⟨b, o, none⟩) ∧ (∀ b o, b < B → w1.frozen? ⟨b, o, none⟩ = W.frozen? ⟨b, o, none⟩) :=
  ⟨fun b o h => hb.cell (p := ⟨b, o, none⟩) h, fun b o h => hb.frozen (p := ⟨b, o, none⟩) h⟩

/-- The cells of the law's argument. -/
def inCells (mv v1 v2 v3 v4 v5 v6 v7 tk : Int) (tr : Bool) (o0 o1 o2 o3 o4 o5 o6 o7 : Int) (ot : Bool) : Array Value :=
  #[.int .i64 mv, .int .u16 v1, .int .u16 v2, .int .u16 v3, .int .u16 v4, .int .u16 v5, .int .u16 v6, .int .u16 v7, .int .i64 tk, .bool tr,
    .int .i64 o0, .int .i64 o1, .int .i64 o2, .int .i64 o3, .int .i64 o4, .int .i64 o5, .int .i64 o6, .int .i64 o7, .bool ot]

/-- 'make([]T, n)': a new block behind what was there; what it holds is left open. -/
theorem wpList_make_below {P : Program} (w : World) {ops : Array Oper} {rest : List Oper} {o : Oper} {a : Act} {Q : Exit → Act → World → Prop}
    (hg : o.guard = none) (l c : Operand) (t : TypeId) (hop : o.op = Op.makeSlice t l c) (e : TypeId) (size bytes : Nat) (h1 : P.underlying t = some (.slice e))
    (hinfo : (P.info? e).map (fun i => (i.zero.map (·.cells.size), i.size, i.bytes)) = some (some size, size, bytes))
    (n : Nat) (hl : a.eval l = .int .i64 n) (hc : a.eval c = .int .i64 n) (b2 : bytes * n ≤ 281474976710656) (b3 : n ≤ maxLen) (B : Nat) (W0 : World) (hb : Below B W0 w) (hB : B ≤ w.heap.size)
    (hK : ∀ w', Below B W0 w' → w.heap.size < w'.heap.size → wpList P ops Q rest (a.put o.dst (.slice (some ⟨w.heap.size, 0, none⟩) n n)) w') :
    wpList P ops Q (o :: rest) a w := by
  obtain ⟨i, z, hi, hz, hs, hby, _⟩ := info_some hinfo
  refine wpList_make_full w hg l c t hop B e i z size h1 hi hz hs .i64 .i64 _ _ n hl hc rfl rfl (by rw [hby]; exact b2) b3 hB ?_
  intro w' hown hgr
  refine hK w' (hb.grown hgr hB (by intro k h; cases h)) (hown.lt _ rfl).2

theorem cn_nat (x : Int) (n : Nat) (w : World) (h : 0 ≤ x ∧ x ≤ 65535) (e : Hid (x % 300 = (n : Int))) :
    Calls Yba.prog 5 #[.int .u16 x] w fun e w' => e = .returned (.int .i64 n) ∧ w' = w := by
  have := cn_any x w h.1 h.2
  rw [e.out] at this
  exact this

theorem cn_of (x : Int) (_h : 0 ≤ x ∧ x ≤ 65535) : ∃ n : Nat, Hid (x % 300 = (n : Int)) ∧ n < 300 :=
  ⟨(x % 300).toNat, show _ = _ by omega, by omega⟩

set_option maxHeartbeats 4000000 in
set_option maxRecDepth 1000000 in
theorem mark_walk (mv v1 v2 v3 v4 v5 v6 v7 tk : Int) (tr : Bool) (o0 o1 o2 o3 o4 o5 o6 o7 : Int) (ot : Bool) (w : World)
    (h1 : 0 ≤ v1 ∧ v1 ≤ 65535) (h2 : 0 ≤ v2 ∧ v2 ≤ 65535) (h3 : 0 ≤ v3 ∧ v3 ≤ 65535) (h4 : 0 ≤ v4 ∧ v4 ≤ 65535) (h5 : 0 ≤ v5 ∧ v5 ≤ 65535) (h6 : 0 ≤ v6 ∧ v6 ≤ 65535) (h7 : 0 ≤ v7 ∧ v7 ≤ 65535) :
    Calls Yba.prog 3 #[.agg (inCells mv v1 v2 v3 v4 v5 v6 v7 tk tr o0 o1 o2 o3 o4 o5 o6 o7 ot)] w fun e w' => e = .returned (.bool true) ∧ Below w.heap.size w w' := by
  obtain ⟨n1, e1, l1⟩ := cn_of v1 h1
  obtain ⟨n2, e2, l2⟩ := cn_of v2 h2
  obtain ⟨n3, e3, l3⟩ := cn_of v3 h3
  obtain ⟨n4, e4, l4⟩ := cn_of v4 h4
  obtain ⟨n5, e5, l5⟩ := cn_of v5 h5
  obtain ⟨n6, e6, l6⟩ := cn_of v6 h6
  obtain ⟨n7, e7, l7⟩ := cn_of v7 h7
  unfold inCells
  go_enter Yba.func3, Yba.ntmps3
  go_wp2
  go_quiet (first | (go_at_call_of 5 v1; refine (cn_nat v1 n1 _ h1 e1).mono ?_; rintro e w' ⟨rfl, rfl⟩; first | exact ⟨rfl, _, rfl⟩ | exact ⟨rfl, _, (World.drewN_drewN _ _ _).symm⟩ | exact ⟨rfl, _, World.drewN_drewN _ _ _⟩) | (go_at_call_of 5 v2; refine (cn_nat v2 n2 _ h2 e2).mono ?_; rintro e w' ⟨rfl, rfl⟩; first | exact ⟨rfl, _, rfl⟩ | exact ⟨rfl, _, (World.drewN_drewN _ _ _).symm⟩ | exact ⟨rfl, _, World.drewN_drewN _ _ _⟩))
  go_wp2_with fail
  go_quiet (first | (go_at_call_of 5 v3; refine (cn_nat v3 n3 _ h3 e3).mono ?_; rintro e w' ⟨rfl, rfl⟩; first | exact ⟨rfl, _, rfl⟩ | exact ⟨rfl, _, (World.drewN_drewN _ _ _).symm⟩ | exact ⟨rfl, _, World.drewN_drewN _ _ _⟩) | (go_at_call_of 5 v4; refine (cn_nat v4 n4 _ h4 e4).mono ?_; rintro e w' ⟨rfl, rfl⟩; first | exact ⟨rfl, _, rfl⟩ | exact ⟨rfl, _, (World.drewN_drewN _ _ _).symm⟩ | exact ⟨rfl, _, World.drewN_drewN _ _ _⟩))
  go_wp2_with fail
  go_quiet (first | (go_at_call_of 5 v5; refine (cn_nat v5 n5 _ h5 e5).mono ?_; rintro e w' ⟨rfl, rfl⟩; first | exact ⟨rfl, _, rfl⟩ | exact ⟨rfl, _, (World.drewN_drewN _ _ _).symm⟩ | exact ⟨rfl, _, World.drewN_drewN _ _ _⟩) | (go_at_call_of 5 v6; refine (cn_nat v6 n6 _ h6 e6).mono ?_; rintro e w' ⟨rfl, rfl⟩; first | exact ⟨rfl, _, rfl⟩ | exact ⟨rfl, _, (World.drewN_drewN _ _ _).symm⟩ | exact ⟨rfl, _, World.drewN_drewN _ _ _⟩))
  go_wp2_with fail
  refine (cn_nat v7 n7 _ h7 e7).mono ?_
  rintro e w' ⟨rfl, rfl⟩
  go_wp2_with (at_make; refine wpList_make_below _ rfl _ _ 27 rfl 46 12 112 Yba.underlying27 Yba.info46 n1 rfl rfl (by omega) (by unfold maxLen; omega) (w.heap.size + 1) _ (Below.refl (w.heap.size + 1) _) (by simp) ?_)
  intro w1 hb1 hz1
  go_wp2_with (at_make; refine wpList_make_below _ rfl _ _ 28 rfl 49 5 40 Yba.underlying28 Yba.info49 n2 rfl rfl (by omega) (by unfold maxLen; omega) (w.heap.size + 1) _ hb1 (by omega) ?_)
  intro w2 hb2 hz2
  clear hb1
  go_wp2_with (at_make; refine wpList_make_below _ rfl _ _ 29 rfl 52 13 136 Yba.underlying29 Yba.info52 n3 rfl rfl (by omega) (by unfold maxLen; omega) (w.heap.size + 1) _ hb2 (by omega) ?_)
  intro w3 hb3 hz3
  clear hb2
  go_wp2_with (at_make; refine wpList_make_below _ rfl _ _ 29 rfl 52 13 136 Yba.underlying29 Yba.info52 n4 rfl rfl (by omega) (by unfold maxLen; omega) (w.heap.size + 1) _ hb3 (by omega) ?_)
  intro w4 hb4 hz4
  clear hb3
  go_wp2_with (at_make; refine wpList_make_below _ rfl _ _ 27 rfl 46 12 112 Yba.underlying27 Yba.info46 n5 rfl rfl (by omega) (by unfold maxLen; omega) (w.heap.size + 1) _ hb4 (by omega) ?_)
  intro w5 hb5 hz5
  clear hb4
  go_wp2_with (at_make; refine wpList_make_below _ rfl _ _ 27 rfl 46 12 112 Yba.underlying27 Yba.info46 n6 rfl rfl (by omega) (by unfold maxLen; omega) (w.heap.size + 1) _ hb5 (by omega) ?_)
  intro w6 hb6 hz6
  clear hb5
  go_wp2_with (at_make; refine wpList_make_below _ rfl _ _ 30 rfl 5 1 1 Yba.underlying30 Yba.info5 n7 rfl rfl (by omega) (by unfold maxLen; omega) (w.heap.size + 1) _ hb6 (by omega) ?_)
  intro w7 hb7 hz7
  clear hb6
  obtain ⟨hc7, hf7⟩ := bcell hb7
  have hlt7 : w.heap.size < w7.heap.size := by omega
  clear hz1 hz2 hz3 hz4 hz5 hz6 hz7
  have HB7 := show Hid _ from hb7
  clear hb7 e1 e2 e3 e4 e5 e6 e7 h1 h2 h3 h4 h5 h6 h7
  go_wp2_with fail
  refine (mark_new w7 mv (some ⟨w.heap.size + 1, 0, none⟩) (some ⟨w1.heap.size, 0, none⟩) (some ⟨w2.heap.size, 0, none⟩) (some ⟨w3.heap.size, 0, none⟩) (some ⟨w4.heap.size, 0, none⟩) (some ⟨w5.heap.size, 0, none⟩) (some ⟨w6.heap.size, 0, none⟩)
    n1 n1 n2 n2 n3 n3 n4 n4 n5 n5 n6 n6 n7 n7 tk tr o0 o1 o2 o3 o4 o5 o6 o7 ot).mono ?_
  rintro e w8 ⟨rfl, m8, rfl⟩
  unfold builderCells
  go_wp2
  go_quiet (fail)
  go_wp2
  go_quiet (fail)
  go_wp2_with (first | (go_at_call 7; refine (same7 _ _ _).mono ?_; rintro e w' ⟨rfl, q, rfl⟩) | (go_at_call 8; refine (same8 _ _ _).mono ?_; rintro e w' ⟨rfl, q, rfl⟩) | (go_at_call 9; refine (same9 _ _ _).mono ?_; rintro e w' ⟨rfl, q, rfl⟩) | (go_at_call 10; refine (same10 _ _ _).mono ?_; rintro e w' ⟨rfl, q, rfl⟩))
  go_ret
  refine ⟨rfl, ?_⟩
  have hb : Below w.heap.size w w7 := (below_drewN ((Below.refl _ _).alloc (Nat.le_refl _) _) _).trans (HB7.out.mono (Nat.le_succ _))
  exact below_drewN ((below_drewN (hb.alloc (Nat.le_of_lt hlt7) _) _).alloc (by simp; omega) _) _
end Go.Proofs.Ybulkeesq
