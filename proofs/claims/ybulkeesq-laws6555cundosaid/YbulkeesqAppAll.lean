/- append onto a row of the Builder's own, the source empty or not. -/
import Derived.Test.YbulkeesqNext
namespace Go.Proofs.Ybulkeesq
open Go.RowKit Go.Joins

theorem run_append_zero {P : Program} (w : World) (t ty e : TypeId) (i : TypeInfo) (ht : P.underlying t = some (.slice e)) (hi : P.info? e = some i) (a y : Option Addr) (n cap c : Nat) (hn : n ≤ cap) :
    (Builtin.append_ #[t, t] ty #[.slice a n cap, .slice y 0 c]).run P w = .ok (.slice a n cap) w := by
  cases a <;> cases y <;> simp [Builtin.append_, run_underlying ht, sizeOf, typeInfo, hi, Builtin.lenOf, Builtin.firstCells, hn, storeCells, loadCells, loadCellsFrom]

theorem grown_self (w : World) (r : Option Nat) : w.grownBy w r := ⟨rfl, rfl, rfl, Nat.le_refl _, fun _ _ _ => rfl⟩

theorem wpList_append_all {P : Program} {w : World} {ops : Array Oper} {rest : List Oper} {o : Oper} {a : Act} {Q : Exit → Act → World → Prop} (hgd : o.guard = none) (s x : Operand) (t : TypeId) (ho : o.op = .call { callee := .builtin .append, args := #[s, x], argTypes := #[t, t] })
    (base : Nat) (e : TypeId) (size bytes : Nat) (ht : P.underlying t = some (.slice e)) (hinfo : (P.info? e).map (fun i => (i.zero.map (·.cells.size), i.size, i.bytes)) = some (some size, size, bytes)) (hsz : 0 < size)
    (av : Option Addr) (n cap : Nat) (hs : a.eval s = .slice av n cap) (hown : Row w base e size av n cap)
    (ax : Option Addr) (m c : Nat) (hx : a.eval x = .slice ax m c) (hnews : 0 < m → ∃ ad news, ax = some ad ∧ List.length news = m * size ∧ (∀ j u, news[j]? = some u → w.cell? (ad.add j) = some u) ∧ (∀ u ∈ news, u.oneCell' = true))
    (h63 : n + m ≤ maxLen) (hbytes : (n + m) * bytes ≤ 140737488355328) (hbase : base ≤ w.heap.size)
    (h : ∀ a' cap' w', Row w' base e size a' (n + m) cap' → w.grownBy w' (Value.slice av n cap).ownBlock → (a' = av ∨ ∃ g, a' = some ⟨g, 0, none⟩ ∧ w.heap.size ≤ g) → cap ≤ cap' → wpList P ops Q rest (a.put o.dst (.slice a' (n + m) cap')) w') : wpList P ops Q (o :: rest) a w := by
  obtain ⟨xs, h1, h2⟩ := hown
  by_cases hm : 0 < m
  · obtain ⟨ad, news, rfl, k1, k2, k3⟩ := hnews hm
    refine wpList_append_caps w hgd s x t ho base e size bytes ht hinfo hsz av n cap xs hs h1 ad m c news hx k1 k2 k3 hm h63 hbytes hbase ?_
    intro g cap' w' r1 r2 r3 r4
    refine h _ cap' w' ⟨_, r1, fun u hu => ?_⟩ r2 ?_ r4
    · rcases List.mem_append.1 hu with hh | hh
      · exact h2 u hh
      · exact k3 u hh
    · rcases r3 with r3 | r3
      · exact .inl r3.symm
      · exact .inr ⟨g, rfl, r3⟩
  · obtain rfl : m = 0 := by omega
    obtain ⟨i, z, hi, hz, hsize, hby, hzs⟩ := info_some hinfo
    have hr := run_append_zero (P := P) w t o.type e i ht hi av ax n cap c (Row.cap ⟨xs, h1, h2⟩)
    refine wpList_plain hgd fun K hK => ?_
    unfold Oper.wp execOp
    simp only [ho, resolve, invoke, builtin, Sem.run_bind, Sem.run_pure, Result.andThen_ok, List.map_toArray, List.map_cons, List.map_nil, hs, hx, hr]
    exact hK _ _ (h av cap w ⟨xs, h1, h2⟩ (grown_self _ _) (.inl rfl) (Nat.le_refl _))

/-- The rows behind an append onto 'text'. -/
theorem Rows5.appX {bb : Nat} {W w1 : World} {s : St} {a' : Option Addr} {n c : Nat} (h : Rows5 bb W s) (hg : W.grownBy w1 (Value.slice s.ax s.nx s.cx).ownBlock) (hown : Row w1 (bb + 1) 5 1 a' n c) :
    Rows5 bb w1 { s with ax := a', nx := n, cx := c } := by
  have ne : ∀ y : Addr, (∀ x, s.ax = some x → x.block ≠ y.block) → (Value.slice s.ax s.nx s.cx).ownBlock ≠ some y.block := by
    intro y hy e
    obtain ⟨x, hx, e2⟩ := own_block.1 e
    exact hy x hx e2
  exact ⟨h.v.grown hg (fun y hy => ne y fun x hx => by obtain ⟨c1, t1⟩ := h.x.type hx; obtain ⟨c2, t2⟩ := h.v.type hy; exact types_apart t1 t2 (by decide)),
    owns_grown h.o hg (fun y hy => ne y fun x hx => by obtain ⟨c1, t1⟩ := h.x.type hx; obtain ⟨c2, t2⟩ := owns_type h.o hy; exact types_apart t1 t2 (by decide)),
    h.i.grown hg (fun y hy => ne y fun x hx => by obtain ⟨c1, t1⟩ := h.x.type hx; obtain ⟨c2, t2⟩ := h.i.type hy; exact types_apart t1 t2 (by decide)),
    h.d.grown hg (fun y hy => ne y fun x hx => by obtain ⟨c1, t1⟩ := h.x.type hx; obtain ⟨c2, t2⟩ := h.d.type hy; exact types_apart t1 t2 (by decide)), hown, h.vi, h.vd, h.id, h.le, h.up⟩
/-- .. onto 'deepItems'. -/
theorem Rows5.appD {bb : Nat} {W w1 : World} {s : St} {a' : Option Addr} {n c : Nat} (h : Rows5 bb W s) (hg : W.grownBy w1 (Value.slice s.ad s.nd s.cd).ownBlock) (hown : Row w1 (bb + 1) 46 12 a' n c) (hat : a' = s.ad ∨ ∃ g, a' = some ⟨g, 0, none⟩ ∧ W.heap.size ≤ g) :
    Rows5 bb w1 { s with ad := a', nd := n, cd := c } := by
  have ne : ∀ y : Addr, (∀ x, s.ad = some x → x.block ≠ y.block) → (Value.slice s.ad s.nd s.cd).ownBlock ≠ some y.block := by
    intro y hy e
    obtain ⟨x, hx, e2⟩ := own_block.1 e
    exact hy x hx e2
  have far : ∀ (b : Option Addr), Apart b s.ad → (∀ y, b = some y → y.block < W.heap.size) → Apart b a' := by
    intro b hb hlt x y hx hy e
    rcases hat with rfl | ⟨g, rfl, h1⟩
    · exact hb x y hx hy e
    · cases hy
      have := hlt x hx
      simp only at e; omega
  exact ⟨h.v.grown hg (fun y hy => ne y fun x hx => (h.vd y x hy hx).symm),
    owns_grown h.o hg (fun y hy => ne y fun x hx => by obtain ⟨c1, t1⟩ := h.d.type hx; obtain ⟨c2, t2⟩ := owns_type h.o hy; exact types_apart t1 t2 (by decide)),
    h.i.grown hg (fun y hy => ne y fun x hx => (h.id y x hy hx).symm), hown,
    h.x.grown hg (fun y hy => ne y fun x hx => by obtain ⟨c1, t1⟩ := h.d.type hx; obtain ⟨c2, t2⟩ := h.x.type hy; exact types_apart t1 t2 (by decide)),
    h.vi, far _ h.vd (fun y hy => (h.v.lt hy).2), far _ h.id (fun y hy => (h.i.lt hy).2), h.le, h.up⟩
end Go.Proofs.Ybulkeesq
