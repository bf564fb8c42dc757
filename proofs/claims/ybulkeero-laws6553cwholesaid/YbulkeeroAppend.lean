/- append onto a row of the call's own, with what becomes of its capacity and where it lies. -/
import Derived.Test.YbulkeeroArr
import Derived.ArgAppend
import Derived.Laws.AppendOwnNone
import Derived.Lib.SmallJoins
namespace Go.Proofs.Ybulkeero
open Go.RowKit Go.Joins

theorem info_some {P : Program} {e : TypeId} {size bytes : Nat} (h : (P.info? e).map (fun i => (i.zero.map (·.cells.size), i.size, i.bytes)) = some (some size, size, bytes)) :
    ∃ i z, P.info? e = some i ∧ i.zero = some z ∧ i.size = size ∧ i.bytes = bytes ∧ z.cells.size = size := by
  obtain ⟨i, hi, he⟩ := Option.map_eq_some_iff.1 h
  simp only [Prod.mk.injEq] at he
  obtain ⟨h1, h2, h3⟩ := he
  obtain ⟨z, hz, hs⟩ := Option.map_eq_some_iff.1 h1
  exact ⟨i, z, hi, hz, h2, h3, hs⟩

theorem run_append_caps {P : Program} (w : World) (t ty : TypeId) (base : Nat) (e : TypeId) (i : TypeInfo) (z : Value) (size bytes : Nat) (ht : P.underlying t = some (.slice e)) (hi : P.info? e = some i) (hz : i.zero = some z)
    (hsize : i.size = size) (hby : i.bytes = bytes) (hzs : z.cells.size = size) (hsz : 0 < size)
    (a : Option Addr) (n cap : Nat) (xs : List Value) (hown : w.ownsRow base e size (.slice a n cap) n xs)
    (ad : Addr) (m c : Nat) (news : List Value) (hl : news.length = m * size) (hnews : ∀ j u, news[j]? = some u → w.cell? (ad.add j) = some u) (h1 : ∀ u ∈ news, u.oneCell' = true)
    (hm : 0 < m) (h63 : n + m ≤ maxLen) (hbytes : (n + m) * bytes ≤ 140737488355328) (hbase : base ≤ w.heap.size) :
    ∃ g cap' w', (Builtin.append_ #[t, t] ty #[.slice a n cap, .slice (some ad) m c]).run P w = .ok (.slice (some ⟨g, 0, none⟩) (n + m) cap') w' ∧
      w'.ownsRow base e size (.slice (some ⟨g, 0, none⟩) (n + m) cap') (n + m) (xs ++ news) ∧ w.grownBy w' (Value.slice a n cap).ownBlock ∧ (a = some ⟨g, 0, none⟩ ∨ w.heap.size ≤ g) ∧ cap ≤ cap' := by
  have fresh : ∀ (v' : Value) (w' : World), w'.ownsRow w.heap.size e size v' (n + m) (xs ++ news) → ∃ g cap', v' = .slice (some ⟨g, 0, none⟩) (n + m) cap' ∧ w.heap.size ≤ g ∧ n + m ≤ cap' := by
    intro v' w' h
    rcases h.2 with ⟨_, h0⟩ | ⟨g, cap', cur, hv, hb, _, hn, _⟩
    · omega
    · exact ⟨g, cap', hv, hb, hn⟩
  rcases hown.2 with ⟨h, h0⟩ | ⟨g, cap0, cur, hv, hb, hh, hnc, hcm, hcs, htk⟩
  · cases h
    clear h0
    have hnil : xs = [] := List.eq_nil_of_length_eq_zero (by rw [hown.1]; omega)
    subst hnil
    obtain ⟨v', w', hr, r1, r2, _⟩ := run_append_own (P := P) w w.heap.size t ty e i z size bytes ht hi hz hsize hby hzs hsz (.slice none 0 0) 0 [] (World.ownsRow_nil _ _ _ _) ad m c news hl hnews h1 h63 hbytes (Nat.le_refl _)
    obtain ⟨g, cap', rfl, hg, hc⟩ := fresh v' w' r1
    exact ⟨g, cap', w', hr, ownsRow_le r1 hbase, r2, .inr hg, Nat.zero_le _⟩
  · cases hv
    by_cases hroom : n + m ≤ cap
    · obtain ⟨w', hr, r1, r2⟩ := run_append_fits (P := P) w base t ty e i size ht hi hsize g n cap xs hown ad m c news hl hnews h1 hroom
      exact ⟨g, cap, w', hr, r1, r2, .inl rfl, Nat.le_refl _⟩
    · obtain ⟨v', w', hr, r1, r2⟩ := run_append_arg_grows (P := P) w t ty e i z size bytes ht hi hz hsize hby hzs hsz ⟨g, 0, none⟩ n cap xs hown.1 (hown.cells rfl) ad m c news hl hnews (by omega) h63 hbytes
      obtain ⟨g', cap', rfl, hg, hc⟩ := fresh v' w' r1
      refine ⟨g', cap', w', hr, ownsRow_le r1 hbase, ⟨r2.os, r2.tape, r2.output, r2.size, fun k hk _ => r2.block k hk (by simp)⟩, .inr hg, by omega⟩

theorem wp_append_caps {P : Program} (w : World) {o : Oper} {a : Act} {K : Act → World → Prop} {Q : Exit → Act → World → Prop} (s x : Operand) (t : TypeId) (ho : o.op = .call { callee := .builtin .append, args := #[s, x], argTypes := #[t, t] })
    (base : Nat) (e : TypeId) (size bytes : Nat) (ht : P.underlying t = some (.slice e)) (hinfo : (P.info? e).map (fun i => (i.zero.map (·.cells.size), i.size, i.bytes)) = some (some size, size, bytes)) (hsz : 0 < size)
    (av : Option Addr) (n cap : Nat) (xs : List Value) (hs : a.eval s = .slice av n cap) (hown : w.ownsRow base e size (.slice av n cap) n xs)
    (ad : Addr) (m c : Nat) (news : List Value) (hx : a.eval x = .slice (some ad) m c) (hl : news.length = m * size) (hnews : ∀ j u, news[j]? = some u → w.cell? (ad.add j) = some u) (h1 : ∀ u ∈ news, u.oneCell' = true)
    (hm : 0 < m) (h63 : n + m ≤ maxLen) (hbytes : (n + m) * bytes ≤ 140737488355328) (hbase : base ≤ w.heap.size)
    (h : ∀ g cap' w', w'.ownsRow base e size (.slice (some ⟨g, 0, none⟩) (n + m) cap') (n + m) (xs ++ news) → w.grownBy w' (Value.slice av n cap).ownBlock → (av = some ⟨g, 0, none⟩ ∨ w.heap.size ≤ g) → cap ≤ cap' → K (a.put o.dst (.slice (some ⟨g, 0, none⟩) (n + m) cap')) w') : o.wp P a w K Q := by
  obtain ⟨i, z, hi, hz, hsize, hby, hzs⟩ := info_some hinfo
  obtain ⟨g, cap', w', hr, r1, r2, r3, r4⟩ := run_append_caps (P := P) w t o.type base e i z size bytes ht hi hz hsize hby hzs hsz av n cap xs hown ad m c news hl hnews h1 hm h63 hbytes hbase
  unfold Oper.wp execOp
  simp only [ho, resolve, invoke, builtin, Sem.run_bind, Sem.run_pure, Result.andThen_ok, List.map_toArray, List.map_cons, List.map_nil, hs, hx, hr]
  exact h g cap' w' r1 r2 r3 r4

theorem wpList_append_caps {P : Program} (w : World) {ops : Array Oper} {rest : List Oper} {o : Oper} {a : Act} {Q : Exit → Act → World → Prop} (hgd : o.guard = none) (s x : Operand) (t : TypeId) (ho : o.op = .call { callee := .builtin .append, args := #[s, x], argTypes := #[t, t] })
    (base : Nat) (e : TypeId) (size bytes : Nat) (ht : P.underlying t = some (.slice e)) (hinfo : (P.info? e).map (fun i => (i.zero.map (·.cells.size), i.size, i.bytes)) = some (some size, size, bytes)) (hsz : 0 < size)
    (av : Option Addr) (n cap : Nat) (xs : List Value) (hs : a.eval s = .slice av n cap) (hown : w.ownsRow base e size (.slice av n cap) n xs)
    (ad : Addr) (m c : Nat) (news : List Value) (hx : a.eval x = .slice (some ad) m c) (hl : news.length = m * size) (hnews : ∀ j u, news[j]? = some u → w.cell? (ad.add j) = some u) (h1 : ∀ u ∈ news, u.oneCell' = true)
    (hm : 0 < m) (h63 : n + m ≤ maxLen) (hbytes : (n + m) * bytes ≤ 140737488355328) (hbase : base ≤ w.heap.size)
    (h : ∀ g cap' w', w'.ownsRow base e size (.slice (some ⟨g, 0, none⟩) (n + m) cap') (n + m) (xs ++ news) → w.grownBy w' (Value.slice av n cap).ownBlock → (av = some ⟨g, 0, none⟩ ∨ w.heap.size ≤ g) → cap ≤ cap' → wpList P ops Q rest (a.put o.dst (.slice (some ⟨g, 0, none⟩) (n + m) cap')) w') : wpList P ops Q (o :: rest) a w :=
  wpList_plain hgd fun _ hK => wp_append_caps w s x t ho base e size bytes ht hinfo hsz av n cap xs hs hown ad m c news hx hl hnews h1 hm h63 hbytes hbase fun g cap' w' r1 r2 r3 r4 => hK _ _ (h g cap' w' r1 r2 r3 r4)

theorem step_append_caps {P : Program} {w : World} {ops : Array Oper} {o : Oper} {a : Act} {K : Act → World → Prop} {Q : Exit → Act → World → Prop} {E : Prop} (hgd : o.guard = none) (s x : Operand) (t : TypeId) (ho : o.op = .call { callee := .builtin .append, args := #[s, x], argTypes := #[t, t] })
    (base : Nat) (e : TypeId) (size bytes : Nat) (ht : P.underlying t = some (.slice e)) (hinfo : (P.info? e).map (fun i => (i.zero.map (·.cells.size), i.size, i.bytes)) = some (some size, size, bytes)) (hsz : 0 < size)
    (av : Option Addr) (n cap : Nat) (xs : List Value) (hs : a.eval s = .slice av n cap) (hown : w.ownsRow base e size (.slice av n cap) n xs)
    (ad : Addr) (m c : Nat) (news : List Value) (hx : a.eval x = .slice (some ad) m c) (hl : news.length = m * size) (hnews : ∀ j u, news[j]? = some u → w.cell? (ad.add j) = some u) (h1 : ∀ u ∈ news, u.oneCell' = true)
    (hm : 0 < m) (h63 : n + m ≤ maxLen) (hbytes : (n + m) * bytes ≤ 140737488355328) (hbase : base ≤ w.heap.size)
    (h : ∀ g cap' w', w'.ownsRow base e size (.slice (some ⟨g, 0, none⟩) (n + m) cap') (n + m) (xs ++ news) → w.grownBy w' (Value.slice av n cap).ownBlock → (av = some ⟨g, 0, none⟩ ∨ w.heap.size ≤ g) → cap ≤ cap' → K (a.put o.dst (.slice (some ⟨g, 0, none⟩) (n + m) cap')) w') :
    if Region.wanted o (yielded ops a.tmps) = true then Oper.wp P o a w K Q else E := by
  have hw : Region.wanted o (yielded ops a.tmps) = true := by simp [Region.wanted, hgd]
  rw [if_pos hw]
  exact wp_append_caps w s x t ho base e size bytes ht hinfo hsz av n cap xs hs hown ad m c news hx hl hnews h1 hm h63 hbytes hbase h

theorem run_append_zero {P : Program} (w : World) (t ty e : TypeId) (i : TypeInfo) (ht : P.underlying t = some (.slice e)) (hi : P.info? e = some i) (a y : Option Addr) (n cap c : Nat) (hn : n ≤ cap) :
    (Builtin.append_ #[t, t] ty #[.slice a n cap, .slice y 0 c]).run P w = .ok (.slice a n cap) w := by
  cases a <;> cases y <;> simp [Builtin.append_, run_underlying ht, sizeOf, typeInfo, hi, Builtin.lenOf, Builtin.firstCells, hn, storeCells, loadCells, loadCellsFrom]
theorem grown_self (w : World) (r : Option Nat) : w.grownBy w r := ⟨rfl, rfl, rfl, Nat.le_refl _, fun _ _ _ => rfl⟩
theorem owns_cap {w : World} {base size n c : Nat} {e : TypeId} {a : Option Addr} {xs : List Value} (h : w.ownsRow base e size (.slice a n c) n xs) : n ≤ c := by
  rcases h.2 with ⟨h0, h2⟩ | ⟨g, cap, cur, hv, _, _, hn, _⟩
  · cases h0; omega
  · cases hv; exact hn
theorem own_block {a : Option Addr} {n c g : Nat} : (Value.slice a n c).ownBlock = some g ↔ ∃ x, a = some x ∧ x.block = g := by
  cases a with
  | none => simp [Value.ownBlock]
  | some x => simp [Value.ownBlock]

/-- What an append is given: cells that stand somewhere, or none. -/
def Src (w : World) (ax : Option Addr) (news : List Value) : Prop := 0 < news.length → ∃ ad, ax = some ad ∧ ∀ j u, news[j]? = some u → w.cell? (ad.add j) = some u

/-- append, the source empty or not. -/
theorem wpList_append_full {P : Program} {w : World} {ops : Array Oper} {rest : List Oper} {o : Oper} {a : Act} {Q : Exit → Act → World → Prop} (hgd : o.guard = none) (s x : Operand) (t : TypeId) (ho : o.op = .call { callee := .builtin .append, args := #[s, x], argTypes := #[t, t] })
    (base : Nat) (e : TypeId) (size bytes : Nat) (ht : P.underlying t = some (.slice e)) (hinfo : (P.info? e).map (fun i => (i.zero.map (·.cells.size), i.size, i.bytes)) = some (some size, size, bytes)) (hsz : 0 < size)
    (av : Option Addr) (n cap : Nat) (xs : List Value) (hs : a.eval s = .slice av n cap) (hown : w.ownsRow base e size (.slice av n cap) n xs)
    (ax : Option Addr) (m c : Nat) (news : List Value) (hx : a.eval x = .slice ax m c) (hl : news.length = m * size) (hnews : Src w ax news) (h1 : ∀ u ∈ news, u.oneCell' = true)
    (h63 : n + m ≤ maxLen) (hbytes : (n + m) * bytes ≤ 140737488355328) (hbase : base ≤ w.heap.size)
    (h : ∀ a' cap' w', w'.ownsRow base e size (.slice a' (n + m) cap') (n + m) (xs ++ news) → w.grownBy w' (Value.slice av n cap).ownBlock → (a' = av ∨ ∃ g, a' = some ⟨g, 0, none⟩ ∧ w.heap.size ≤ g) → wpList P ops Q rest (a.put o.dst (.slice a' (n + m) cap')) w') : wpList P ops Q (o :: rest) a w := by
  by_cases hm : 0 < m
  · have hpos : 0 < news.length := by rw [hl]; exact Nat.mul_pos hm hsz
    obtain ⟨ad, rfl, k2⟩ := hnews hpos
    refine wpList_append_caps w hgd s x t ho base e size bytes ht hinfo hsz av n cap xs hs hown ad m c news hx hl k2 h1 hm h63 hbytes hbase ?_
    intro g cap' w' r1 r2 r3 r4
    refine h _ cap' w' r1 r2 ?_
    rcases r3 with r3 | r3
    · exact .inl r3.symm
    · exact .inr ⟨g, rfl, r3⟩
  · obtain rfl : m = 0 := by omega
    obtain rfl : news = [] := List.eq_nil_of_length_eq_zero (by omega)
    obtain ⟨i, z, hi, hz, hsize, hby, hzs⟩ := info_some hinfo
    have hr := run_append_zero (P := P) w t o.type e i ht hi av ax n cap c (owns_cap hown)
    refine wpList_plain hgd fun K hK => ?_
    unfold Oper.wp execOp
    simp only [ho, resolve, invoke, builtin, Sem.run_bind, Sem.run_pure, Result.andThen_ok, List.map_toArray, List.map_cons, List.map_nil, hs, hx, hr]
    exact hK _ _ (h av cap w (by simpa using hown) (grown_self _ _) (.inl rfl))
end Go.Proofs.Ybulkeero
