/- The law's walk. -/
import Derived.Test.YbulkeeraWalks
namespace Go.Proofs.Ybulkeera
open Go.RowKit

/-- What the walk is told of a slice of integers that came in. -/
def IsRow (k : IntKind) (w : World) (a : Option Addr) (len cap : Nat) (zs : List Int) : Prop :=
  (a = none ∧ len = 0 ∧ cap = 0 ∧ zs = []) ∨
  ∃ x, a = some x ∧ len ≤ cap ∧ cap ≤ maxLen ∧ zs.length = cap ∧ (∀ i, i < zs.length → w.cell? (x.add i) = some (.int k (zs.getD i 0))) ∧ ∀ n ∈ zs, (Lit.int k n).wf = true

/-- The bytes of the slice, by number. -/
def at0 (zs : List Int) (i : Nat) : Int := zs.getD i 0
def oldCells (zs : List Int) (n : Nat) : List Value := (List.range n).map fun i => .int .u8 (at0 zs i)
theorem oldCells_length (zs : List Int) (n : Nat) : (oldCells zs n).length = n := by simp [oldCells]
theorem oldCells_at (zs : List Int) (n j : Nat) (h : j < n) : (oldCells zs n)[j]? = some (.int .u8 (at0 zs j)) := by simp [oldCells, h]
theorem oldCells_one (zs : List Int) (n : Nat) : ∀ u ∈ oldCells zs n, u.oneCell' = true := by
  intro u hu; simp [oldCells] at hu; obtain ⟨a, _, rfl⟩ := hu; rfl

theorem row_at {w : World} {a : Option Addr} {len cap : Nat} {zs : List Int} (h : IsRow .u8 w a len cap zs) (hp : 0 < len) :
    ∃ b off, a = some ⟨b, off, none⟩ ∧ b < w.heap.size ∧ ∀ j, j < len → w.cell? ⟨b, off + j, none⟩ = some (.int .u8 (at0 zs j)) := by
  rcases h with ⟨_, h, _⟩ | ⟨x, rfl, hl, _, hz, hc, _⟩
  · omega
  · obtain ⟨b, off, spot⟩ := x
    have h0 := hc 0 (by omega)
    have hspot : spot = none := by simpa [Addr.add] using World.cell?_spot h0
    subst hspot
    have hlt := block_lt_of_cell h0
    rw [Go.WideShapes.add_plain] at hlt
    refine ⟨b, off, rfl, hlt, fun j hj => ?_⟩
    rw [← Go.WideShapes.add_plain]; exact hc j (by omega)

theorem owned_heap {w : World} {base g n : Nat} {xs : List Value} (h : w.ownsRow base 5 1 (.slice (some ⟨g, 0, none⟩) n n) n xs) :
    ∃ cur : List Value, w.heap[g]? = some (.cells cur.toArray 5 (0, 0)) ∧ cur.length = n := by
  obtain ⟨_, h2⟩ := h
  rcases h2 with ⟨h0, _⟩ | ⟨g', cap', cur, hv, _, hh, _, _, hsz, _⟩
  · cases h0
  · cases hv
    exact ⟨cur.toList, by simpa using hh, by simpa using hsz⟩

theorem spliced {w2 : World} {g n : Nat} {cur cs : List Value} (h : w2.heap[g]? = some (.cells (splice cur 0 cs).toArray 5 (0, 0))) (h1 : cur.length = n) (h2 : cs.length = n) :
    ∀ j u, cs[j]? = some u → w2.cell? ⟨g, j, none⟩ = some u := by
  intro j u hj
  have e : splice cur 0 cs = cs := by simp [splice]; omega
  rw [e] at h
  simp [World.cell?, h, hj]

theorem cells_app {w : World} {g n : Nat} {zs : List Int} {l : List UInt8} (h : ∀ j u, (oldCells zs n ++ cln l)[j]? = some u → w.cell? ⟨g, j, none⟩ = some u) :
    (∀ j, j < n → w.cell? ⟨g, j, none⟩ = some (.int .u8 (at0 zs j))) ∧ (∀ j (hj : j < l.length), w.cell? ⟨g, n + j, none⟩ = some (.int .u8 (cl l[j].toNat))) := by
  refine ⟨fun j hj => h j _ ?_, fun j hj => h (n + j) _ ?_⟩
  · rw [List.getElem?_append_left (by rw [oldCells_length]; exact hj)]; exact oldCells_at zs n j hj
  · rw [List.getElem?_append_right (by rw [oldCells_length]; omega), oldCells_length]
    simp [cln, hj]

theorem later_cell {w wr : World} {p : Addr} {v : Value} (h : ∃ m, wr = w.drewN m) (hc : w.cell? p = some v) : wr.cell? p = some v := by
  obtain ⟨m, rfl⟩ := h; exact hc
theorem later_drew {w wr : World} (h : ∃ m, wr = w.drewN m) (n : Nat) : Hid (∃ m, wr.drewN n = w.drewN m) := by
  obtain ⟨m, rfl⟩ := h; exact ⟨m + n, World.drewN_drewN _ _ _⟩
theorem later_below {B : Nat} {w0 w wr : World} (hb : Below B w0 w) (h : ∃ m, wr = w.drewN m) : Below B w0 wr := by
  obtain ⟨m, rfl⟩ := h; exact below_drewN hb m

theorem Yba.size5 : (Yba.prog.info? 5).map (·.size) = some 1 := by kernel_rfl

set_option maxHeartbeats 1000000 in
theorem walk_main (a0 : Option Addr) (n cap0 : Nat) (zs : List Int) (s : ByteArray) (w : World) (w0 : IsRow .u8 w a0 n cap0 zs) (hn : n ≤ 1048576) (hs : s.size ≤ 1048576) :
    Calls Yba.prog 3 #[.slice a0 n cap0, .string s] w fun e w' => e = .returned (.bool true) ∧ Below w.heap.size w w' := by
  obtain ⟨i0, hi, hz0, hz1, hz2⟩ := info_parts Yba.info5
  have HR := row_at w0
  have HR' : Hid (0 < n → ∃ b off, a0 = some ⟨b, off, none⟩ ∧ b < w.heap.size ∧ ∀ j, j < n → w.cell? ⟨b, off + j, none⟩ = some (.int .u8 (at0 zs j))) := HR
  clear HR w0
  go_enter Yba.func3, Yba.ntmps3
  go_wp2_with (at_make; refine wpList_make_full _ rfl _ _ 22 rfl w.heap.size 5 i0 (.int .u8 0) 1 Yba.underlying22 hi hz0 hz1 .i64 .i64 _ _ n rfl rfl ?_ ?_ ?_ ?_ ?_ ?_)
  · simp
  · simp
  · rw [hz2]; omega
  · unfold maxLen; omega
  · omega
  · intro w1 hown1 hg1
    obtain ⟨cur, hcur, hcl⟩ := owned_heap hown1
    have hb1 : Below w.heap.size w w1 := (Below.refl _ _).grown hg1 (Nat.le_refl _) (by intro k h; cases h)
    clear hown1 hg1
    go_wp2_with (refine wpList_copy_splice rfl (.tmp 20) (.tmp 21) 22 22 rfl 5 Yba.underlying22 Yba.size5 _ _ _ _ _ _ rfl rfl w.heap.size 0 cur 5 hcur (oldCells zs n) ?_ ?_ ?_ ?_ w.heap.size w hb1 (Nat.le_refl _) ?_)
    · simp [oldCells_length]
    · intro h0
      rw [oldCells_length] at h0
      obtain ⟨b, off, rfl, hlt, hc⟩ := HR'.out h0
      refine ⟨_, rfl, fun j v hj => ?_⟩
      have hjn : j < n := by have := (List.getElem?_eq_some_iff.1 hj).1; rw [oldCells_length] at this; exact this
      rw [oldCells_at zs n j hjn] at hj
      rw [Go.WideShapes.add_plain, hb1.cell (p := ⟨b, off + j, none⟩) hlt, hc j hjn]
      exact hj
    · rw [oldCells_length]; omega
    · exact oldCells_one zs n
    · intro w2 HG2 hb2
      have hold := spliced HG2.out hcl (oldCells_length zs n)
      have hz2 : w.heap.size < w2.heap.size := by
        have := HG2.out
        exact (Array.getElem?_eq_some_iff.1 this).1
      clear hb1 hcur hcl HG2
      have HOLD := show Hid _ from hold
      clear hold
      go_wp2_with (go_at_call 4; refine (append_any w.heap.size n (oldCells zs n) s _ hn hs (oldCells_length zs n) HOLD.out hz2).mono ?_)
      rintro e w3 ⟨g', cap', rfl, hr, hb3⟩
      obtain ⟨hr1, hr2⟩ := cells_app hr
      have hc1 : ∀ j, j < n → w3.cell? ⟨w.heap.size, j, none⟩ = some (.int .u8 (at0 zs j)) := fun j hj => (hb3.cell (p := ⟨w.heap.size, j, none⟩) hz2).trans (HOLD.out j _ (oldCells_at zs n j hj))
      have hb : Below w.heap.size w w3 := hb2.trans (hb3.mono (by omega))
      clear hr hb2 hb3 HOLD hz2
      have HB := show Hid _ from hb
      clear hb
      have H1 := show Hid _ from hr1
      have H2 := show Hid _ from hr2
      have H3 := show Hid _ from hc1
      clear hr1 hr2 hc1
      go_wp2
      go_loopw [7] (fun i wr => ∃ k : Nat, k ≤ n ∧ i = .int .i64 k ∧ ∃ m, wr = w3.drewN m) (fun i _ => n - (intOf i).toNat)
      case atStart => exact ⟨0, Nat.zero_le _, rfl, 0, rfl⟩
      case round =>
        obtain ⟨k, hk, rfl, m, rfl⟩ := hrel
        by_cases hlt : k < n
        · obtain ⟨b, off, rfl, hblt, hc⟩ := HR'.out (by omega)
          have hck := hc k hlt
          have c1 : w3.cell? ⟨b, off + k, none⟩ = some (.int .u8 (at0 zs k)) := (HB.out.cell (p := ⟨b, off + k, none⟩) hblt).trans hck
          have c2 := H1.out k hlt
          have c3 := H3.out k hlt
          have hlt' : (k : Int) < (n : Int) := by omega
          have hlt2 : (k : Int) < (n : Int) + (s.size : Int) := by omega
          clear hc hck hblt
          go_wp2
          go_quiet (fail)
          go_wp2
          go_roundw
          case rel => exact ⟨k + 1, by omega, by go_num, m + nq, rfl⟩
          case measure => simp [intOf]; omega
        · go_wp2
          go_loopw [8] (fun i wr => ∃ k : Nat, k ≤ s.size ∧ i = .int .i64 k ∧ Hid (∃ m, wr = w3.drewN m)) (fun i _ => s.size - (intOf i).toNat)
          case atStart => exact ⟨0, Nat.zero_le _, rfl, show ∃ m, _ = _ from ⟨_, rfl⟩⟩
          case round =>
            obtain ⟨q, hq, rfl, HW⟩ := hrel
            by_cases hqt : q < s.size
            · have c2 := later_cell HW.out (H2.out q (by simpa using hqt))
              change wr.cell? _ = some (.int .u8 (cl s[q].toNat)) at c2
              have hqt2 : (n : Int) + (q : Int) < (n : Int) + (s.size : Int) := by omega
              have hqt3 : (q : Int) < (s.size : Int) := by omega
              have hqw : IntKind.i64.wrap ((n : Int) + (q : Int)) = (n : Int) + (q : Int) := IntWalk.i64_in _ ⟨by omega, by omega⟩
              have hqt4 : (0 : Int) ≤ (n : Int) + (q : Int) := by omega
              have hqt5 : ((n : Int) + (q : Int)).toNat = n + q := by omega
              go_wp2
              go_quiet ((go_at_call 5; exact Calls.quiet_of_same (clean_any _ _)))
              go_wp2
              go_roundw
              case rel => exact ⟨q + 1, by omega, by go_num, later_drew HW.out _⟩
              case measure => simp [intOf]; omega
            · go_wp2
              go_ret
              exact ⟨rfl, later_below HB.out HW.out⟩
end Go.Proofs.Ybulkeera
