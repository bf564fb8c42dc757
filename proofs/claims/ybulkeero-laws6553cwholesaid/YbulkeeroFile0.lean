/- file, the call (function 21). -/
import Derived.Test.YbulkeeroFile1
namespace Go.Proofs.Ybulkeero
open Go.RowKit Go.Joins

/-- An entry's cells, as the law builds it. -/
def entE (key far : List Int) (cnt : Int) (whole aside conf : Bool) (ib : Nat) : List Value := by8 key ++ (.int .u32 0 :: .int .u32 0 :: (by8 far ++ [.int .i32 cnt, .bool whole, .bool aside, .bool conf, .int .u64 0, .pointer (some ⟨ib, 0, none⟩)]))
theorem entE_length {key far : List Int} (lk : key.length = 20) (lf : far.length = 20) (cnt : Int) (whole aside conf : Bool) (ib : Nat) : (entE key far cnt whole aside conf ib).length = 48 := by simp [entE, by8_length, lk, lf]
theorem entE_one (key far : List Int) (cnt : Int) (whole aside conf : Bool) (ib : Nat) : ∀ v ∈ entE key far cnt whole aside conf ib, v.oneCell' = true := by
  intro v hv
  simp only [entE, by8, List.mem_append, List.mem_cons, List.mem_map] at hv
  rcases hv with ⟨x, _, rfl⟩ | rfl | rfl | ⟨x, _, rfl⟩ | rfl | rfl | rfl | rfl | rfl | rfl | hv
  all_goals first | rfl | exact absurd hv (by simp)
theorem entE_key {key far : List Int} {cnt : Int} {whole aside conf : Bool} {ib j : Nat} {v : Value} (h : (by8 key)[j]? = some v) : (entE key far cnt whole aside conf ib)[j]? = some v := by
  have hj := (List.getElem?_eq_some_iff.1 h).1
  rw [entE, List.getElem?_append_left hj]
  exact h
theorem entE_mid {key far : List Int} (lk : key.length = 20) (cnt : Int) (whole aside conf : Bool) (ib j : Nat) : (entE key far cnt whole aside conf ib)[22 + j]? = (by8 far ++ [.int .i32 cnt, .bool whole, .bool aside, .bool conf, .int .u64 0, .pointer (some ⟨ib, 0, none⟩)])[j]? := by
  rw [entE, List.getElem?_append_right (by rw [by8_length]; omega), by8_length, lk, show 22 + j - 20 = j + 2 by omega]
  rfl
theorem entE_far {key far : List Int} (lk : key.length = 20) {cnt : Int} {whole aside conf : Bool} {ib j : Nat} {v : Value} (h : (by8 far)[j]? = some v) : (entE key far cnt whole aside conf ib)[22 + j]? = some v := by
  have hj := (List.getElem?_eq_some_iff.1 h).1
  rw [entE_mid lk, List.getElem?_append_left hj]
  exact h
theorem entE_last {key far : List Int} (lk : key.length = 20) (lf : far.length = 20) (cnt : Int) (whole aside conf : Bool) (ib j : Nat) : (entE key far cnt whole aside conf ib)[42 + j]? = [Value.int .i32 cnt, .bool whole, .bool aside, .bool conf, .int .u64 0, .pointer (some ⟨ib, 0, none⟩)][j]? := by
  rw [show 42 + j = 22 + (20 + j) by omega, entE_mid lk, List.getElem?_append_right (by rw [by8_length]; omega), by8_length, lf, show 20 + j - 20 = j by omega]

/-- The nodes stand where nothing of theirs was written. -/
theorem NodesAt.fr' {B : Nat} {w w' : World} {na : Option Addr} {vs : List Value} {m : Nat → Prop} (h : NodesAt B w na vs) (F : Fr w w' m) (hm : ∀ ad, na = some ad → 0 < vs.length → ¬ m ad.block) : NodesAt B w' na vs := by
  refine ⟨fun hp => ?_, h.lo, h.one⟩
  obtain ⟨ad, e, hc⟩ := h.src hp
  refine ⟨ad, e, fun j u hj => F.cell (hc j u hj) (fun x => ?_)⟩
  have h3 : (ad.add j).block = ad.block := by unfold Addr.add; split <;> rfl
  rw [h3] at x
  exact hm ad e hp x

set_option maxHeartbeats 1000000 in
set_option maxRecDepth 20000 in
theorem file_any (B rb wid d c ib : Nat) (w : World) (gs : List Grp) (cnt foot : List Nat) (vs : List Value) (na : Option Addr) (nc : Nat) (u v : Value) (key far : List Int) (count : Int) (whole aside conf : Bool) (h : Idx B rb wid w gs cnt foot) (hfl : ∀ b ∈ foot, b < w.heap.size) (hN : NodesAt B w na vs) (hNr : ∀ ad, na = some ad → 0 < vs.length → ad.block ≠ rb) (hib : w.heap[ib]? = some (.cells #[u, v] 137 (0, 0))) (hiB : B ≤ ib) (hif : ib ∉ foot) (hd : cnt[d]? = some c) (hc : c ≤ 1000000) (hwid : wid ≤ 1000) (hbig : ∀ g ∈ gs, g.rooms.n ≤ 100000000 ∧ g.ents.n ≤ 100000000) (lk : key.length = 20) (lf : far.length = 20) (hkb : Byt key) (hfb : Byt far) (hdd : d = rdep key far whole) :
    Calls Yba.prog 21 #[.pointer (some ⟨rb, 0, none⟩), .agg (entE key far count whole aside conf ib).toArray, .slice na vs.length nc] w fun e w' => e = .returned (.tuple #[]) ∧ ∃ S' k g g', FileIn B rb wid w gs cnt foot d c (rpre key far whole) (entE key far count whole aside conf ib) vs ib w' S' k g g' := by
  have hl := entE_length lk lf count whole aside conf ib
  have ho := entE_one key far count whole aside conf ib
  have hk0 := fun (j : Nat) (v : Value) (hj : (by8 key)[j]? = some v) => entE_key (far := far) (cnt := count) (whole := whole) (aside := aside) (conf := conf) (ib := ib) hj
  have hf0 := fun (j : Nat) (v : Value) (hj : (by8 far)[j]? = some v) => entE_far lk (cnt := count) (whole := whole) (aside := aside) (conf := conf) (ib := ib) hj
  have hw0 : (entE key far count whole aside conf ib)[43]? = some (.bool whole) := entE_last lk lf count whole aside conf ib 1
  have hi0 : (entE key far count whole aside conf ib)[47]? = some (.pointer (some ⟨ib, 0, none⟩)) := entE_last lk lf count whole aside conf ib 5
  generalize entE key far count whole aside conf ib = E at *
  go_enter Yba.func21, Yba.ntmps21
  change ((Code.region 0 #[{ dst := some 4, op := Op.box 145 (Operand.tmp 1), type := 0, pos := "reach.go:144", after := #[], guard := none }] false).seq (fileC 1)).wp _ _ _ _
  refine wp_seq (wp_region_list ?_)
  refine wpList_value rfl (exec_box rfl rfl) ?_
  simp only [Act.put, List.setIfInBounds_toArray, List.set_cons_zero, List.set_cons_succ]
  refine wpList_nil ?_
  have G := grown_alloc w (.cells E.toArray 145) none
  have F := fr_of_grown G
  have hE : EntAt w.heap.size E (w.alloc (.cells E.toArray 145)) := ⟨range_new w E 145, by simp, hl, ho⟩
  have I : Idx B rb wid (w.alloc (.cells E.toArray 145)) gs cnt foot := by
    cases h with
    | some S h => exact .some S (h.grown G)
    | none h => exact .none ⟨h.lt, Nat.le_trans h.size G.size, by rw [G.block rb (Nat.lt_of_lt_of_le h.lt h.size) (by simp)]; exact h.blk⟩
  have hrl : rb < w.heap.size := by
    cases h with
    | some S h => exact h.rbLt
    | none h => exact Nat.lt_of_lt_of_le h.lt h.size
  have hilt : ib < w.heap.size := (Array.getElem?_eq_some_iff.1 hib).1
  have hib1 : (w.alloc (.cells E.toArray 145)).heap[ib]? = some (.cells #[u, v] 137 (0, 0)) := by rw [G.block ib hilt (by simp)]; exact hib
  have hN1 : NodesAt B (w.alloc (.cells E.toArray 145)) na vs := hN.fr F (fun _ e => e.elim)
  generalize w.alloc (.cells E.toArray 145) = w1 at *
  refine file1 B rb wid d c w.heap.size ib (rpre key far whole) w1 gs cnt foot E vs na nc u v _ I hN1 hE (fun e => by have := hfl _ e; omega) hi0 hib1 hiB hif (by omega) (by omega) (fun w' F' => hN1.fr' F' hNr) hd hc hwid hbig key far whole lk lf hkb hfb (fun j v hj => hE.box j v (hk0 j v hj)) (fun j v hj => ?_) ?_ hdd rfl (fun w' S' k g g' T => ⟨rfl, S', k, g, g', T.at', T.cnt, T.was, T.gr, T.en, T.ex, T.rn, T.rx, F.chain T.fr (fun _ e => e.elim) (fun _ _ e => e), fun b hb => (T.ft b hb).imp (fun e => e) (fun e => Nat.le_trans G.size e), T.item⟩) _ _ _ _ _ _ _ _ _ _ _ _ _ _ _ _ _ _ _ _ _ _ _ _ _ _ _ _ _ _ _ _ _ _ _ _ _ _ _ _ _ _ _ _ _ _ _ _ _ _ _ _ _ _ _ _ _ _ _ _ _ _ _ _ _ _ _ _ _ _ _ _ _ _ _ _ _ _ _ _ _ _ _ _ _ _ _ _ _ _ _ _ _ _ _ _
  · have := hE.box (22 + j) v (hf0 j v hj)
    simpa using this
  · have := hE.box 43 _ hw0
    simpa using this

end Go.Proofs.Ybulkeero
