/- file: the reach is worked out. -/
import Derived.Test.YbulkeeroFile3
namespace Go.Proofs.Ybulkeero
open Go.RowKit Go.Joins

def z139 : List Value := rcells 0 (List.replicate 20 0)
theorem exec_alloc139 {ρ : Operand → Value} {o : Oper} {w : World} (ho : o.op = .alloc 139) : (execOp ρ o).run Yba.prog w = .ok (.value (.pointer (some ⟨w.heap.size, 0, none⟩))) (w.alloc (.cells z139.toArray 139)) := by
  unfold execOp
  simp [ho, go_sem, z139, rcells, by8, List.replicate]

structure Made (d : Nat) (P : List Int) (w w2 : World) : Prop where
  gr : w.grownBy w2 none
  cells : w2.rangeAt w.heap.size 0 (rcells d P)
  lt : w.heap.size < w2.heap.size
theorem made (w : World) (d : Nat) (P : List Int) (hP : P.length = 20) : (w.alloc (.cells z139.toArray 139)).there w.heap.size 0 21 ∧ Made d P w ((w.alloc (.cells z139.toArray 139)).setCells w.heap.size 0 (rcells d P)) := by
  have hz : z139.toArray.size = 21 := by simp [z139, rcells_length]
  have ht := there_new w z139.toArray 139 21 hz
  refine ⟨ht, grown_of_below (below_setCells (Nat.le_refl w.heap.size) _ 0 _ ((Below.refl w.heap.size w).alloc (Nat.le_refl _) _)), World.rangeAt_setCells_same _ _ _ _ (by rw [rcells_length, hP]; exact ht), ?_⟩
  have := (grown_setCells (w.alloc (.cells z139.toArray 139)) w.heap.size 0 (rcells d P)).size
  simp at this
  omega

set_option maxHeartbeats 1000000 in
set_option maxRecDepth 20000 in
theorem file2 (B rb wid d c eb ib : Nat) (P : List Int) (w : World) (S : FS) (E vs : List Value) (na : Option Addr) (nc : Nat) (u v : Value) (R : Ending → World → Prop) (h : FAt B rb wid w S) (hN : NodesAt B w na vs) (hE : EntAt eb E w) (hef : eb ∉ S.foot) (hEi : E[47]? = some (.pointer (some ⟨ib, 0, none⟩))) (hib : w.heap[ib]? = some (.cells #[u, v] 137 (0, 0))) (hiB : B ≤ ib) (hif : ib ∉ S.foot) (hie : ib ≠ eb) (hd : S.cnt[d]? = some c) (hc : c ≤ 1000000) (hwid : wid ≤ 1000) (hbig : ∀ g ∈ S.gs, g.rooms.n ≤ 100000000 ∧ g.ents.n ≤ 100000000) (key far : List Int) (whole : Bool) (lk : key.length = 20) (lf : far.length = 20) (hkb : Byt key) (hfb : Byt far) (rk : w.rangeAt eb 0 (by8 key)) (rf : w.rangeAt eb 22 (by8 far)) (rwh : w.cell? ⟨eb, 43, none⟩ = some (.bool whole)) (hdd : d = rdep key far whole) (hPP : P = rpre key far whole)
    (hR : ∀ w' S' k g g', FileTo B rb wid w S d c P E vs ib w' S' k g g' → R (.returned (.tuple #[])) w') (u1 u3 u5 u6 u7 u8 u9 u10 u11 u12 u13 u14 u15 u16 u17 u18 u19 u20 u21 u22 u23 u24 u25 u26 u27 u28 u29 u30 u31 u32 u33 u34 u35 u36 u37 u38 u39 u40 u41 u42 u43 u44 u45 u46 u47 u48 u49 u50 u51 u52 u53 u54 u55 u56 u57 u58 u59 u60 u61 u62 u63 u64 u65 u66 u67 u68 u69 u70 u71 u72 u73 u74 u75 u76 u77 u78 u79 u80 u81 u82 u83 u84 u85 u86 u87 u88 u89 u90 u91 u92 u93 u94 u95 u96 u97 u98 : Value) :
    (fileC 2).wp Yba.prog (bodyPost Yba.prog Yba.f21 R) ⟨#[.pointer (some ⟨rb, 0, none⟩), u1, .slice na vs.length nc, u3, .pointer (some ⟨eb, 0, none⟩), u5, u6, u7, u8, u9, u10, u11, u12, u13, u14, u15, u16, u17, u18, u19, u20, u21, u22, u23, u24, u25, u26, u27, u28, u29, u30, u31, u32, u33, u34, u35, u36, u37, u38, u39, u40, u41, u42, u43, u44, u45, u46, u47, u48, u49, u50, u51, u52, u53, u54, u55, u56, u57, u58, u59, u60, u61, u62, u63, u64, u65, u66, u67, u68, u69, u70, u71, u72, u73, u74, u75, u76, u77, u78, u79, u80, u81, u82, u83, u84, u85, u86, u87, u88, u89, u90, u91, u92, u93, u94, u95, u96, u97, u98], []⟩ w := by
  have hP : P.length = 20 := by rw [hPP]; exact pre_length _ _
  change ((Code.region 4 #[{ dst := some 22, op := Op.call { callee := Callee.value (Operand.func 30), args := #[Operand.tmp 4], argTypes := #[145] }, type := 139, pos := "reach.go:149", after := #[], guard := none }, { dst := some 6, op := Op.alloc 139, type := 0, pos := "reach.go:149", after := #[], guard := none }, { dst := none, op := Op.store 139 (Operand.tmp 6) (Operand.tmp 22), type := 0, pos := "reach.go:149", after := #[{ on := 1, ground := Ground.data }, { on := 0, ground := Ground.data }, { on := 0, ground := Ground.chain }, { on := 0, ground := Ground.phase }, { on := 1, ground := Ground.phase }], guard := none }] false).seq (fileC 3)).wp _ _ _ _
  refine wp_seq (wp_region_list ?_)
  refine wpList_enterC rfl 30 #[.pointer (some ⟨eb, 0, none⟩)] (by go_simp) (reach_any w eb key far whole lk lf hkb hfb rk rf rwh hE.lt) ?_
  rintro e w1 ⟨rfl, hB1⟩
  refine ⟨_, rfl, ?_⟩
  simp only [Act.put, List.setIfInBounds_toArray, List.set_cons_zero, List.set_cons_succ]
  rw [← hdd, ← hPP]
  have hg1 := grown_of_below hB1
  refine wpList_value rfl (exec_alloc139 rfl) ?_
  simp only [Act.put, List.setIfInBounds_toArray, List.set_cons_zero, List.set_cons_succ]
  obtain ⟨ht, M⟩ := made w1 d P hP
  refine wpList_skip rfl (exec_store139 (x := .tmp 6) (y := .tmp 22) rfl rfl rfl hP ht) ?_
  generalize (w1.alloc (.cells z139.toArray 139)).setCells w1.heap.size 0 (rcells d P) = w2 at *
  clear ht
  refine wpList_nil ?_
  have F : Fr w w2 (fun _ => False) := (fr_of_grown hg1).chain (fr_of_grown M.gr) (fun _ e => e) (fun _ _ e => e)
  have A2 := h.fr F (fun e => e) (fun _ _ e => e)
  have hsz : w.heap.size ≤ w1.heap.size := hg1.size
  have hilt : ib < w.heap.size := (Array.getElem?_eq_some_iff.1 hib).1
  have E2 : EntAt eb E w2 := ⟨fun j v hj => F.cell (hE.box j v hj) (fun e => e), Nat.lt_of_lt_of_le hE.lt F.size, hE.len, hE.one⟩
  have hib2 : w2.heap[ib]? = some (.cells #[u, v] 137 (0, 0)) := by rw [F.block ib hilt (fun e => e)]; exact hib
  have hin : ib ≠ w1.heap.size := by omega
  have hnf : w1.heap.size ∉ S.foot := fun e => by have := h.lt_foot _ e; omega
  have hN2 : NodesAt B w2 na vs := hN.fr F (fun _ e => e.elim)
  have hR2 : ∀ w' S' k g g', FileTo B rb wid w2 S d c P E vs ib w' S' k g g' → R (.returned (.tuple #[])) w' := fun w' S' k g g' T => hR w' S' k g g' ⟨T.at', T.cnt, T.was, T.gr, T.en, T.ex, T.rn, T.rx, F.chain T.fr (fun _ e => e.elim) (fun _ _ e => e), fun b hb => (T.ft b hb).imp (fun e => e) (fun e => Nat.le_trans F.size e), T.item⟩
  clear hE hib hN hR h hdd hPP rk rf rwh hB1 hg1
  exact file3 B rb wid w1.heap.size d c eb ib P w2 S E vs na nc u v R A2 hN2 E2 hef hEi hib2 hiB hif hie hin hd M.cells hP hnf hc M.lt hwid hbig hR2 _ _ _ _ _ _ _ _ _ _ _ _ _ _ _ _ _ _ _ _ _ _ _ _ _ _ _ _ _ _ _ _ _ _ _ _ _ _ _ _ _ _ _ _ _ _ _ _ _ _ _ _ _ _ _ _ _ _ _ _ _ _ _ _ _ _ _ _ _ _ _ _ _ _ _ _ _ _ _ _ _ _ _ _ _ _ _ _ _ _ _ _ _ _ _

end Go.Proofs.Ybulkeero
