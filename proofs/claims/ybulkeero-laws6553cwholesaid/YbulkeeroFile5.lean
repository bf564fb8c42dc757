/- file: the item's filing. -/
import Derived.Test.YbulkeeroFile6
import Derived.Test.YbulkeeroInv
namespace Go.Proofs.Ybulkeero
open Go.RowKit Go.Joins

theorem filing_any (w : World) (ib : Nat) : Calls Yba.prog 84 #[.pointer (some ⟨ib, 0, none⟩)] w (fun e w' => e = .returned (.pointer (some ⟨ib, 0, none⟩)) ∧ w' = w) := by
  go_enter Yba.func84, Yba.ntmps84
  go_wp2
  exact bodyPost_ret (v := .pointer (some ⟨ib, 0, none⟩)) (by simp [results, Yba.f84]) rfl ⟨rfl, rfl⟩
theorem meth84 (ib : Nat) (w : World) : (method 384 132 (.pointer (some ⟨ib, 0, none⟩)) "example.com/warren/warren/record.filing").run Yba.prog w = .ok (84, .pointer (some ⟨ib, 0, none⟩)) w := by kernel_rfl
theorem inv84 {ρ : Operand → Value} {o : Oper} {w : World} {x : Operand} (ho : o.op = .call { callee := .invoke x "example.com/warren/warren/record.filing", args := #[], argTypes := #[] }) {ib : Nat} (hx : ρ x = .iface 132 (.pointer (some ⟨ib, 0, none⟩))) :
    (execOp ρ o).run Yba.prog w = .ok (.enter 84 #[.pointer (some ⟨ib, 0, none⟩)]) w := by
  unfold execOp
  simp only [ho, resolve, List.map_toArray, List.map_nil, hx]
  simp [go_sem, invoke, meth84]
theorem exec_len150 {ρ : Operand → Value} {o : Oper} {w : World} {x : Operand} (ho : o.op = .call { callee := .builtin .len, args := #[x], argTypes := #[150] }) {r : Row} (hx : ρ x = r.val) : (execOp ρ o).run Yba.prog w = .ok (.value (.int .i64 (r.n : Int))) w := by
  unfold Row.val at hx
  unfold execOp
  simp [ho, hx, go_sem]
/-- An item's filing. -/
def filed (b n : Nat) : Array Value := #[.pointer (some ⟨b, 0, none⟩), .int .i64 (n : Int)]
theorem exec_store135 {ρ : Operand → Value} {o : Oper} {w : World} {x y : Operand} (ho : o.op = .store 135 x y) {ib b n : Nat} (hx : ρ x = .pointer (some ⟨ib, 0, none⟩)) (hy : ρ y = .agg (filed b n)) {u v : Value} (hib : w.heap[ib]? = some (.cells #[u, v] 137 (0, 0))) :
    (execOp ρ o).run Yba.prog w = .ok .skip (w.setCells ib 0 (filed b n).toList) := by
  refine exec_store_mid 135 x y ho ib 0 (filed b n) hx hy ?_ (by kernel_rfl) (by simp [filed]; exact ⟨rfl, rfl⟩)
  intro j hj
  refine ⟨?_, unfrozen_of_block hib _⟩
  rw [cell_of_block hib]
  have hj2 : j < 2 := hj
  simp
  omega
theorem block_filed {w : World} {ib b n : Nat} {u v : Value} (hib : w.heap[ib]? = some (.cells #[u, v] 137 (0, 0))) : (w.setCells ib 0 (filed b n).toList).heap[ib]? = some (.cells (filed b n) 137 (0, 0)) := by
  show ((w.setCell ⟨ib, 0, none⟩ _).setCell ⟨ib, 0 + 1, none⟩ _).heap[ib]? = _
  rw [block_setCell (block_setCell hib _)]
  rfl

/-- What the filing of one entry into group k leaves. -/
structure Filed (B rb wid : Nat) (w : World) (S : FS) (k d c : Nat) (g' : Grp) (ib : Nat) (ob : Obj) (w' : World) : Prop where
  at' : FAt B rb wid w' ⟨S.mb, S.db, S.gs.set k g', S.cnt.set d (c + 1)⟩
  fr : Fr w w' (fun j => j ∈ S.foot ∨ j = ib)
  ft : ∀ b ∈ g'.foot, b ∈ S.foot ∨ w.heap.size ≤ b
  item : w'.heap[ib]? = some ob

set_option maxHeartbeats 1000000 in
set_option maxRecDepth 20000 in
theorem file5 (B rb wid nb d c k eb ib : Nat) (w : World) (S : FS) (g : Grp) (E vs : List Value) (na : Option Addr) (nc : Nat) (u v : Value) (R : Ending → World → Prop) (h : FAt B rb wid w S) (hg : S.gs[k]? = some g) (hN : NodesAt B w na vs) (hE : EntAt eb E w) (hef : eb ∉ S.foot) (hEi : E[47]? = some (.pointer (some ⟨ib, 0, none⟩))) (hib : w.heap[ib]? = some (.cells #[u, v] 137 (0, 0))) (hiB : B ≤ ib) (hif : ib ∉ S.foot) (hie : ib ≠ eb) (hin : ib ≠ nb) (hd : S.cnt[d]? = some c) (hnb : w.cell? ⟨nb, 0, none⟩ = some (.int .i64 (d : Int))) (hnf : nb ∉ S.foot) (hc : c ≤ 1000000) (hbig : g.rooms.n + wid ≤ 1000000000) (hbig2 : g.ents.n + 1 ≤ 1000000000)
    (hR : ∀ w' q r, q.n = g.ents.n + 1 → q.xs = g.ents.xs ++ E → r.n = g.rooms.n + wid → r.xs = g.rooms.xs ++ room wid vs → Filed B rb wid w S k d c { g with ents := q, rooms := r } ib (.cells (filed g.b g.ents.n) 137 (0, 0)) w' → R (.returned (.tuple #[])) w') (u1 u3 u5 u8 u9 u10 u11 u12 u13 u14 u15 u16 u17 u18 u19 u20 u21 u22 u23 u24 u25 u26 u27 u28 u29 u30 u31 u32 u33 u34 u35 u36 u37 u38 u39 u40 u41 u42 u43 u44 u45 u46 u47 u48 u49 u50 u51 u52 u53 u54 u55 u56 u57 u58 u59 u60 u61 u62 u63 u64 u65 u66 u67 u68 u69 u70 u71 u72 u73 u74 u75 u76 u77 u78 u79 u80 u81 u82 u83 u84 u85 u86 u87 u88 u89 u90 u91 u92 u93 u94 u95 u96 u97 u98 : Value) :
    (fileC 5).wp Yba.prog (bodyPost Yba.prog Yba.f21 R) ⟨#[.pointer (some ⟨rb, 0, none⟩), u1, .slice na vs.length nc, u3, .pointer (some ⟨eb, 0, none⟩), u5, .pointer (some ⟨nb, 0, none⟩), .pointer (some ⟨g.b, 0, none⟩), u8, u9, u10, u11, u12, u13, u14, u15, u16, u17, u18, u19, u20, u21, u22, u23, u24, u25, u26, u27, u28, u29, u30, u31, u32, u33, u34, u35, u36, u37, u38, u39, u40, u41, u42, u43, u44, u45, u46, u47, u48, u49, u50, u51, u52, u53, u54, u55, u56, u57, u58, u59, u60, u61, u62, u63, u64, u65, u66, u67, u68, u69, u70, u71, u72, u73, u74, u75, u76, u77, u78, u79, u80, u81, u82, u83, u84, u85, u86, u87, u88, u89, u90, u91, u92, u93, u94, u95, u96, u97, u98], []⟩ w := by
  have hgm := List.mem_of_getElem? hg
  have hd0 := h.grown (grown_drew w)
  have G := hd0.grp g hgm
  have hebx : w.drew.cell? ⟨eb, 47, none⟩ = some (.pointer (some ⟨ib, 0, none⟩)) := by have := ((World.rangeAt_drew _ _ _ _).2 hE.box) 47 _ hEi; simpa using this
  have hilt : ib < w.heap.size := (Array.getElem?_eq_some_iff.1 hib).1
  have hibd : w.drew.heap[ib]? = some (.cells #[u, v] 137 (0, 0)) := hib
  have hgi : g.b ≠ ib := fun e => hif (foot_of hgm (by simp [Grp.foot, e]))
  change ((Code.region 9 #[{ dst := some 40, op := Op.fieldAddr 145 (Operand.tmp 4) 7, type := 0, pos := "reach.go:155", after := #[], guard := none }, { dst := some 41, op := Op.load 132 (Operand.tmp 40), type := 132, pos := "reach.go:155", after := #[{ on := 0, ground := Ground.data }], guard := none }, { dst := some 42, op := Op.makeInterface 132 (Operand.tmp 41), type := 20, pos := "reach.go:155", after := #[{ on := 1, ground := Ground.data }], guard := none }, { dst := some 43, op := Op.call { callee := Callee.invoke (Operand.tmp 42) "example.com/warren/warren/record.filing", args := #[], argTypes := #[] }, type := 175, pos := "reach.go:155", after := #[{ on := 2, ground := Ground.data }], guard := none }, { dst := some 44, op := Op.move (Operand.tmp 7), type := 133, pos := "reach.go:155", after := #[], guard := none }, { dst := some 45, op := Op.move (Operand.tmp 7), type := 133, pos := "reach.go:155", after := #[], guard := none }, { dst := some 46, op := Op.nilCheck (Operand.tmp 45), type := 0, pos := "reach.go:155", after := #[{ on := 5, ground := Ground.data }], guard := none }, { dst := some 47, op := Op.fieldAddr 152 (Operand.tmp 46) 1, type := 0, pos := "reach.go:155", after := #[{ on := 6, ground := Ground.data }], guard := none }, { dst := some 48, op := Op.load 150 (Operand.tmp 47), type := 150, pos := "reach.go:155", after := #[{ on := 7, ground := Ground.data }], guard := none }, { dst := some 49, op := Op.call { callee := Callee.builtin Builtin.len, args := #[Operand.tmp 48], argTypes := #[150] }, type := 3, pos := "reach.go:155", after := #[{ on := 8, ground := Ground.data }], guard := none }, { dst := some 50, op := Op.build 135 #[(0, Operand.tmp 44), (1, Operand.tmp 49)], type := 135, pos := "reach.go:155", after := #[{ on := 4, ground := Ground.data }, { on := 9, ground := Ground.data }], guard := none }, { dst := some 51, op := Op.nilCheck (Operand.tmp 43), type := 0, pos := "reach.go:155", after := #[{ on := 3, ground := Ground.data }, { on := 0, ground := Ground.phase }, { on := 1, ground := Ground.phase }, { on := 2, ground := Ground.phase }, { on := 3, ground := Ground.phase }, { on := 4, ground := Ground.phase }, { on := 5, ground := Ground.phase }, { on := 6, ground := Ground.phase }, { on := 7, ground := Ground.phase }, { on := 8, ground := Ground.phase }, { on := 9, ground := Ground.phase }, { on := 10, ground := Ground.phase }], guard := none }, { dst := none, op := Op.store 135 (Operand.tmp 51) (Operand.tmp 50), type := 0, pos := "reach.go:155", after := #[{ on := 11, ground := Ground.data }, { on := 10, ground := Ground.data }, { on := 3, ground := Ground.chain }, { on := 0, ground := Ground.phase }, { on := 1, ground := Ground.phase }, { on := 2, ground := Ground.phase }, { on := 3, ground := Ground.phase }, { on := 4, ground := Ground.phase }, { on := 5, ground := Ground.phase }, { on := 6, ground := Ground.phase }, { on := 7, ground := Ground.phase }, { on := 8, ground := Ground.phase }, { on := 9, ground := Ground.phase }, { on := 10, ground := Ground.phase }], guard := none }] true).seq (fileC 6)).wp _ _ _ _
  refine wp_seq ?_
  refine beginE [] (fun w' : World => w'.cell? ⟨g.b, 21, none⟩ = some g.ents.val ∧ w'.cell? ⟨eb, 47, none⟩ = some (.pointer (some ⟨ib, 0, none⟩))) (by kernel_rfl) ⟨G.c21.1, hebx⟩ (fun hHeld => ?_)
  refine takeE 0 { dst := some 40, op := Op.fieldAddr 145 (Operand.tmp 4) 7, type := 0, pos := "reach.go:155", after := #[], guard := none } (.pointer (some ⟨eb, 47, none⟩)) rfl (by kernel_rfl) (by kernel_rfl) (by kernel_rfl) (by kernel_rfl) (fun _ _ _ h => h) (Or.inl ⟨by rfl, by intro w hSw; clear hSw; go_simp⟩) hHeld ?_
  simp only [Act.put, List.setIfInBounds_toArray, List.set_cons_zero, List.set_cons_succ]
  refine takeE 1 { dst := some 41, op := Op.load 132 (Operand.tmp 40), type := 132, pos := "reach.go:155", after := #[{ on := 0, ground := Ground.data }], guard := none } (.pointer (some ⟨ib, 0, none⟩)) rfl (by kernel_rfl) (by kernel_rfl) (by kernel_rfl) (by kernel_rfl) (fun _ _ _ h => h) (Or.inl ⟨by rfl, by intro w hSw; have hSc := hSw.2; clear hSw; go_simp⟩) hHeld ?_
  simp only [Act.put, List.setIfInBounds_toArray, List.set_cons_zero, List.set_cons_succ]
  refine takeE 2 { dst := some 42, op := Op.makeInterface 132 (Operand.tmp 41), type := 20, pos := "reach.go:155", after := #[{ on := 1, ground := Ground.data }], guard := none } (.iface 132 (.pointer (some ⟨ib, 0, none⟩))) rfl (by kernel_rfl) (by kernel_rfl) (by kernel_rfl) (by kernel_rfl) (fun _ _ _ h => h) (Or.inl ⟨by rfl, by intro w hSw; clear hSw; go_simp⟩) hHeld ?_
  simp only [Act.put, List.setIfInBounds_toArray, List.set_cons_zero, List.set_cons_succ]
  refine takeE 4 { dst := some 44, op := Op.move (Operand.tmp 7), type := 133, pos := "reach.go:155", after := #[], guard := none } (.pointer (some ⟨g.b, 0, none⟩)) rfl (by kernel_rfl) (by kernel_rfl) (by kernel_rfl) (by kernel_rfl) (fun _ _ _ h => h) (Or.inl ⟨by rfl, by intro w hSw; clear hSw; go_simp⟩) hHeld ?_
  simp only [Act.put, List.setIfInBounds_toArray, List.set_cons_zero, List.set_cons_succ]
  refine takeE 5 { dst := some 45, op := Op.move (Operand.tmp 7), type := 133, pos := "reach.go:155", after := #[], guard := none } (.pointer (some ⟨g.b, 0, none⟩)) rfl (by kernel_rfl) (by kernel_rfl) (by kernel_rfl) (by kernel_rfl) (fun _ _ _ h => h) (Or.inl ⟨by rfl, by intro w hSw; clear hSw; go_simp⟩) hHeld ?_
  simp only [Act.put, List.setIfInBounds_toArray, List.set_cons_zero, List.set_cons_succ]
  refine takeE 6 { dst := some 46, op := Op.nilCheck (Operand.tmp 45), type := 0, pos := "reach.go:155", after := #[{ on := 5, ground := Ground.data }], guard := none } (.pointer (some ⟨g.b, 0, none⟩)) rfl (by kernel_rfl) (by kernel_rfl) (by kernel_rfl) (by kernel_rfl) (fun _ _ _ h => h) (Or.inl ⟨by rfl, by intro w hSw; clear hSw; go_simp⟩) hHeld ?_
  simp only [Act.put, List.setIfInBounds_toArray, List.set_cons_zero, List.set_cons_succ]
  refine takeE 7 { dst := some 47, op := Op.fieldAddr 152 (Operand.tmp 46) 1, type := 0, pos := "reach.go:155", after := #[{ on := 6, ground := Ground.data }], guard := none } (.pointer (some ⟨g.b, 21, none⟩)) rfl (by kernel_rfl) (by kernel_rfl) (by kernel_rfl) (by kernel_rfl) (fun _ _ _ h => h) (Or.inl ⟨by rfl, by intro w hSw; clear hSw; go_simp⟩) hHeld ?_
  simp only [Act.put, List.setIfInBounds_toArray, List.set_cons_zero, List.set_cons_succ]
  refine takeE 8 { dst := some 48, op := Op.load 150 (Operand.tmp 47), type := 150, pos := "reach.go:155", after := #[{ on := 7, ground := Ground.data }], guard := none } (g.ents.val) rfl (by kernel_rfl) (by kernel_rfl) (by kernel_rfl) (by kernel_rfl) (fun _ _ _ h => h) (Or.inl ⟨by rfl, fun w hSw => exec_load150 rfl rfl hSw.1⟩) hHeld ?_
  simp only [Act.put, List.setIfInBounds_toArray, List.set_cons_zero, List.set_cons_succ]
  refine takeE 9 { dst := some 49, op := Op.call { callee := Callee.builtin Builtin.len, args := #[Operand.tmp 48], argTypes := #[150] }, type := 3, pos := "reach.go:155", after := #[{ on := 8, ground := Ground.data }], guard := none } (.int .i64 (g.ents.n : Int)) rfl (by kernel_rfl) (by kernel_rfl) (by kernel_rfl) (by kernel_rfl) (fun _ _ _ h => h) (Or.inl ⟨by rfl, fun w hSw => exec_len150 rfl rfl⟩) hHeld ?_
  simp only [Act.put, List.setIfInBounds_toArray, List.set_cons_zero, List.set_cons_succ]
  refine takeE 10 { dst := some 50, op := Op.build 135 #[(0, Operand.tmp 44), (1, Operand.tmp 49)], type := 135, pos := "reach.go:155", after := #[{ on := 4, ground := Ground.data }, { on := 9, ground := Ground.data }], guard := none } (.agg (filed g.b g.ents.n)) rfl (by kernel_rfl) (by kernel_rfl) (by kernel_rfl) (by kernel_rfl) (fun _ _ _ h => h) (Or.inl ⟨by rfl, by intro w hSw; clear hSw; unfold filed; go_simp⟩) hHeld ?_
  simp only [Act.put, List.setIfInBounds_toArray, List.set_cons_zero, List.set_cons_succ]
  refine stepE 3 { dst := some 43, op := Op.call { callee := Callee.invoke (Operand.tmp 42) "example.com/warren/warren/record.filing", args := #[], argTypes := #[] }, type := 175, pos := "reach.go:155", after := #[{ on := 2, ground := Ground.data }], guard := none } rfl (by kernel_rfl) (fun K hK => ?_)
  rw [if_pos (by rfl)]
  refine wp_enter 84 _ (inv84 rfl rfl) (filing_any w.drew ib) (fun e w' hr => ?_)
  obtain ⟨rfl, rfl⟩ := hr
  refine ⟨_, rfl, ?_⟩
  simp only [Act.put, List.setIfInBounds_toArray, List.set_cons_zero, List.set_cons_succ]
  refine hK _ _ (fun _ => hHeld) ?_
  clear hK K
  refine stepE 11 { dst := some 51, op := Op.nilCheck (Operand.tmp 43), type := 0, pos := "reach.go:155", after := #[{ on := 3, ground := Ground.data }, { on := 0, ground := Ground.phase }, { on := 1, ground := Ground.phase }, { on := 2, ground := Ground.phase }, { on := 3, ground := Ground.phase }, { on := 4, ground := Ground.phase }, { on := 5, ground := Ground.phase }, { on := 6, ground := Ground.phase }, { on := 7, ground := Ground.phase }, { on := 8, ground := Ground.phase }, { on := 9, ground := Ground.phase }, { on := 10, ground := Ground.phase }], guard := none } rfl (by kernel_rfl) (fun K hK => ?_)
  rw [if_pos (by rfl)]
  refine wp_same (.pointer (some ⟨ib, 0, none⟩)) (by go_simp) ?_
  simp only [Act.put, List.setIfInBounds_toArray, List.set_cons_zero, List.set_cons_succ]
  refine hK _ _ (fun _ => hHeld) ?_
  clear hK K
  refine stepE 12 { dst := none, op := Op.store 135 (Operand.tmp 51) (Operand.tmp 50), type := 0, pos := "reach.go:155", after := #[{ on := 11, ground := Ground.data }, { on := 10, ground := Ground.data }, { on := 3, ground := Ground.chain }, { on := 0, ground := Ground.phase }, { on := 1, ground := Ground.phase }, { on := 2, ground := Ground.phase }, { on := 3, ground := Ground.phase }, { on := 4, ground := Ground.phase }, { on := 5, ground := Ground.phase }, { on := 6, ground := Ground.phase }, { on := 7, ground := Ground.phase }, { on := 8, ground := Ground.phase }, { on := 9, ground := Ground.phase }, { on := 10, ground := Ground.phase }], guard := none } rfl (by kernel_rfl) (fun K hK => ?_)
  rw [if_pos (by rfl)]
  refine wp_skip' (exec_store135 rfl rfl (b := g.b) (n := g.ents.n) rfl hibd) ?_
  have hgr := grown_setCells w.drew ib 0 (filed g.b g.ents.n).toList
  have hob := block_filed (b := g.b) (n := g.ents.n) hibd
  generalize w.drew.setCells ib 0 (filed g.b g.ents.n).toList = w5 at *
  refine hK _ _ (fun _ => ⟨cell_grown hHeld.1 hgr (by simpa using Ne.symm hgi), cell_grown hHeld.2 hgr (by simpa using hie)⟩) (doneE (by kernel_rfl) ?_ _)
  simp only [Act.put]
  clear hK K
  have F5 : Fr w w5 (fun j => j = ib) := Fr.ofDrew (fr_at hgr)
  have A5 : FAt B rb wid w5 S := h.fr F5 (fun e => by have := h.lt; omega) (fun b hb e => hif (e ▸ hb))
  have E5 : EntAt eb E w5 := ⟨range_grown ((World.rangeAt_drew _ _ _ _).2 hE.box) hgr (by simpa using hie), Nat.lt_of_lt_of_le hE.lt F5.size, hE.len, hE.one⟩
  refine file6 B rb wid nb d c k eb w5 S g E vs na nc R A5 hg (hN.fr F5 (fun b e => e ▸ hiB)) E5 hef hd (F5.cell hnb (Ne.symm hin)) hnf hc hbig hbig2 (fun w' q r h1 h2 h3 h4 D => hR w' q r h1 h2 h3 h4 ⟨D.at', F5.chain D.fr (fun j e => .inr e) (fun j _ e => .inl e), fun b hb => (D.ft b hb).imp (fun x => x) (fun x => Nat.le_trans F5.size x), ?_⟩) _ _ _ _ _ _ _ _ _ _ _ _ _ _ _ _ _ _ _ _ _ _ _ _ _ _ _ _ _ _ _ _ _ _ _ _ _ _ _ _ _ _ _ _ _ _ _ _ _ _ _ _ _ _ _ _ _ _ _ _ _ _ _ _ _ _ _ _ _ _ _ _ _ _ _ _ _ _ _ _ _ _ _ _ _ _ _ _ _ _ _ _ _ _
  rw [D.fr.block ib (Nat.lt_of_lt_of_le hilt F5.size) hif]
  exact hob

end Go.Proofs.Ybulkeero
