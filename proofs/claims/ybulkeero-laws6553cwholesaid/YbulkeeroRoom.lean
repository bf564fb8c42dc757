/- copy(rooms[start:], nodes). -/
import Derived.Test.YbulkeeroFile10
namespace Go.Proofs.Ybulkeero
open Go.RowKit Go.Joins

/-- The room of an item: its nodes, cut or padded. -/
def room (wid : Nat) (vs : List Value) : List Value := vs.take wid ++ zs32 (wid - vs.length)
theorem room_length (wid : Nat) (vs : List Value) : (room wid vs).length = wid := by
  simp only [room, List.length_append, List.length_take, zs32_length]; omega
theorem Yba.size23 : (Yba.prog.info? 23).map (·.size) = some 1 := by kernel_rfl

theorem copy_rooms (w : World) (ty B : Nat) (r : Row) (n wid : Nat) (xs vs : List Value) (na : Option Addr) (nc : Nat) (hn : r.n = n + wid) (hx : r.xs = xs ++ zs32 wid) (hxl : xs.length = n) (hown : w.ownsRow B 23 1 r.val r.n r.xs) (hsrc : Src w na vs) (h1 : ∀ v ∈ vs, v.oneCell' = true) :
    ∃ w', (Builtin.copy_ #[47, 47] ty #[.slice (if r.c = n then r.a else r.a.map (·.add n)) wid (r.c - n), .slice na vs.length nc]).run Yba.prog w = .ok (goInt (Nat.min vs.length wid)) w' ∧ w'.ownsRow B 23 1 r.val r.n (xs ++ room wid vs) ∧ w.grownBy w' r.val.ownBlock := by
  obtain ⟨i, hi, hs⟩ := Option.map_eq_some_iff.1 Yba.size23
  by_cases h0 : Nat.min vs.length wid = 0
  · have hr : room wid vs = zs32 wid := by
      rcases Nat.eq_zero_or_pos wid with e | e
      · subst e; simp [room, zs32]
      · have : vs = [] := List.eq_nil_of_length_eq_zero (by have : min vs.length wid = 0 := h0; omega)
        subst this
        simp [room]
    refine ⟨w, ?_, by rw [hr, ← hx]; exact hown, grown_self _ _⟩
    have hl0 : ∀ a : Addr, (loadCells a 0).run Yba.prog w = .ok #[] w := fun a => run_loadCells_list (P := Yba.prog) w a [] (by simp)
    have hst : ∀ a : Addr, (storeCells a []).run Yba.prog w = .ok () w := fun a => by simp [storeCells]
    cases na <;> cases (if r.c = n then r.a else r.a.map (·.add n)) <;> simp [Builtin.copy_, run_underlying Yba.underlying47, sizeOf, typeInfo, hi, Builtin.lenOf, Builtin.firstCells, h0, hl0, hst]
  · have hm : 0 < vs.length ∧ 0 < wid := by have : ¬ min vs.length wid = 0 := h0; omega
    obtain ⟨ad, rfl, hsc⟩ := hsrc hm.1
    rcases hown.2 with ⟨_, hz⟩ | ⟨g, cap, cur, hv, hbg, hh, hnc, hcm, hcs, htk⟩
    · omega
    · have hra : r.a = some ⟨g, 0, none⟩ ∧ r.c = cap := by unfold Row.val at hv; injection hv with e1 e2 e3; exact ⟨e1, e3⟩
      obtain ⟨hra, hrc⟩ := hra
      have hcn : ¬ cap = n := by omega
      have htl : (vs.take wid).length = min wid vs.length := by rw [List.length_take]
      have hld := run_loadCells_list (P := Yba.prog) w ad (vs.take wid) (fun j v hj => hsc j v (by
        have hjl := (List.getElem?_eq_some_iff.1 hj).1
        rw [List.length_take] at hjl
        rw [List.getElem?_take_of_lt (by omega)] at hj
        exact hj))
      have hst := run_storeCells_at Yba.prog g n 23 (vs.take wid) 0 cur w hh (by rw [htl]; omega) (fun v hv => h1 v (List.mem_of_mem_take hv))
      simp only [Nat.add_zero] at hst
      have hmin : Nat.min vs.length wid = (vs.take wid).length := by rw [htl]; exact Nat.min_comm _ _
      refine ⟨_, ?_, ⟨?_, .inr ⟨g, cap, _, hv, hbg, setRow_heap w g cur (cur.toList.take n ++ vs.take wid ++ cur.toList.drop (n + (vs.take wid).length)).toArray 23 _ hh, hnc, hcm, ?_, ?_⟩⟩, ⟨rfl, rfl, rfl, by simp [World.setRow], fun j _ hj => setRow_other w g j _ (fun e => hj (by rw [hv]; simp [Value.ownBlock, e]))⟩⟩
      · rw [← hmin] at hld
        generalize hq : w.setRow g (cur.toList.take n ++ vs.take wid ++ cur.toList.drop (n + (vs.take wid).length)).toArray = w' at *
        clear hq
        generalize vs.take wid = ys at *
        simp [Builtin.copy_, run_underlying Yba.underlying47, sizeOf, typeInfo, hi, hs, hra, hrc, Builtin.lenOf, Builtin.firstCells, hcn, Addr.add_lit, hld, hst]
      · rw [List.length_append, room_length, hxl]; omega
      · simp only [List.size_toArray, List.length_append, List.length_take, List.length_drop, Array.length_toList]
        omega
      · have ht : cur.toList.take n = xs := by
          have h2 : (cur.toList.take (r.n * 1)).take n = xs := by rw [htk, hx, ← hxl]; exact List.take_left
          rwa [List.take_take, Nat.min_eq_left (by omega)] at h2
        have hd : (cur.toList.drop n).take wid = zs32 wid := by
          have h2 : (cur.toList.take (r.n * 1)).drop n = zs32 wid := by rw [htk, hx, ← hxl]; exact List.drop_left
          rw [List.drop_take, show r.n * 1 - n = wid from by omega] at h2
          exact h2
        have hd2 : (cur.toList.drop (n + (vs.take wid).length)).take (wid - vs.length) = zs32 (wid - vs.length) := by
          have h3 : ((cur.toList.drop n).take wid).drop (vs.take wid).length = (zs32 wid).drop (vs.take wid).length := by rw [hd]
          rw [List.drop_take, List.drop_drop, zs32, List.drop_replicate, htl] at h3
          rw [htl, zs32, show wid - vs.length = wid - min wid vs.length from by omega]
          exact h3
        rw [ht, List.append_assoc, room, Nat.mul_one, hn]
        have e1 : n + wid = xs.length + ((vs.take wid).length + (wid - vs.length)) := by rw [hxl, htl]; omega
        rw [e1, List.take_length_add_append, List.take_length_add_append, hd2]
end Go.Proofs.Ybulkeero
