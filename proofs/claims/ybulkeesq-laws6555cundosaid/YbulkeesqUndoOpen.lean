/- The law's arguments, opened: a script. -/
import Derived.Test.YbulkeesqUndoLaw
import Derived.ProofKit
import Derived.OpenShut
import Derived.Deep.Slices
import Derived.SizedLaws
namespace Go.Proofs.Ybulkeesq
open Go.ChangeShapes Go.WideShapes Go.ChangeAt Go.RowKit Go.Joins Go.Deep

theorem Yba.cells57 : Yba.prog.cellsOf 57 = 3 := by kernel_rfl
theorem Yba.cells5 : Yba.prog.cellsOf 5 = 1 := by kernel_rfl
theorem Yba.cells_3 : Yba.prog.cellsOf 3 = 1 := by kernel_rfl
theorem Yba.cells9 : Yba.prog.cellsOf 9 = 1 := by kernel_rfl
theorem Yba.bytes57 : Yba.prog.bytesOf 57 = 32 := by kernel_rfl

theorem weights_all {H : Type} {P : Program} {e : TypeId} {l : List (DataW H)} {d : DataW H} {n : Nat} (hd : d ∈ l) (hn : n ∈ d.weights P e) : n ∈ DataW.weightsAll P e l := by
  induction l with
  | nil => cases hd
  | cons x l ih =>
    simp only [DataW.weightsAll, List.mem_append]
    rcases List.mem_cons.1 hd with rfl | h
    · exact .inl hn
    · exact .inr (ih h)

section
variable {H : Type} {enc : TypeId × Value → H} {W : World} {base : Nat} {spare : Nat → Bool} {held : Bool}

theorem open_ops {a : Option Addr} {len cap : Nat} {d : DataW H} {p : List MemPlace} (h : DataW.Trod enc Yba.prog W base spare held 55 (.slice a len cap) d p) (hsp : ∀ b, spare b = true) (hwt : ∀ n ∈ d.weights Yba.prog 55, n ≤ reachBytes) :
    ∃ x y t, Script W W.heap.size a len x y t ∧ (∀ k, k < len → (t k).size ≤ 140737488351232) ∧ len ≤ 140737488351232 := by
  obtain ⟨fuel, hf⟩ := h
  rcases open_slice Yba.underlying55 hf with ⟨hcs, _⟩ | ⟨x, l, c, m, n, D, Pl, hcs, _, hl, _, hm, hd, hx⟩
  · simp [Value.cells] at hcs
    obtain ⟨rfl, rfl, rfl⟩ := hcs
    exact ⟨fun _ => 0, fun _ => 0, fun _ => ByteArray.empty, ⟨fun h => absurd h (Nat.lt_irrefl _), fun k hk => absurd hk (Nat.not_lt_zero _)⟩, fun k hk => absurd hk (Nat.not_lt_zero _), Nat.zero_le _⟩
  · simp [Value.cells] at hcs
    obtain ⟨rfl, rfl, rfl⟩ := hcs
    rw [hsp, if_pos rfl] at hm
    subst hm
    obtain rfl : d = .slice ((List.range len).map D) ((List.range (m - len)).map fun j => D (len + j)) := (Prod.mk.inj hd).1
    have hw0 : len ≤ 140737488351232 := by
      have := hwt ((len + (m - len)) * 32) (by simp [DataW.weights, Yba.underlying55, Yba.bytes57])
      have e : reachBytes = 140737488351232 := rfl
      omega
    obtain ⟨V, hV⟩ := choose_lt (α := Int × Int × ByteArray) (n := m) (p := fun i q => W.cell? (x.add (i * 3)) = some (.int .u8 q.1) ∧ W.cell? ((x.add (i * 3)).add 1) = some (.int .i64 q.2.1) ∧ W.cell? ((x.add (i * 3)).add 2) = some (.string q.2.2) ∧ (0 ≤ q.1 ∧ q.1 ≤ 255) ∧ q.2.2.size ∈ (D i).weights Yba.prog 57) fun i hi => by
      obtain ⟨cs', h1, h2⟩ := hx i hi
      rw [Yba.cells57] at h1
      obtain ⟨_, hlen, hcell⟩ := World.cells?_some h1
      obtain ⟨xs, k, _, hDi, _, hxl, hfl⟩ := DataW.trod_struct Yba.underlying57 h2
      match cs', hlen with
      | [v0, v1, v2], _ =>
        have hs : ∀ i, i < 3 → (xs[i]?).isSome = true := fun i hi => by
          have : xs.length = 3 := hxl
          simp [this, hi]
        obtain ⟨y0, g0⟩ := Option.isSome_iff_exists.1 (hs 0 (by omega))
        obtain ⟨y1, g1⟩ := Option.isSome_iff_exists.1 (hs 1 (by omega))
        obtain ⟨y2, g2⟩ := Option.isSome_iff_exists.1 (hs 2 (by omega))
        have e0 : DataW.trod enc Yba.prog W base spare held k 5 [v0] = some y0 := by rw [← g0]; simpa [Yba.cells5] using hfl 0 _ rfl
        have e1 : DataW.trod enc Yba.prog W base spare held k 3 [v1] = some y1 := by rw [← g1]; simpa [Yba.cells_3] using hfl 1 _ rfl
        have e2 : DataW.trod enc Yba.prog W base spare held k 9 [v2] = some y2 := by rw [← g2]; simpa [Yba.cells9] using hfl 2 _ rfl
        obtain ⟨b0, q0, _, wf0⟩ := DataW.trod_int Yba.underlying5 e0
        obtain ⟨b1, q1, _⟩ := DataW.trod_int Yba.underlying3 e1
        obtain ⟨b2, q2, hy2, _⟩ := DataW.trod_string Yba.underlying9 e2
        simp at q0 q1 q2
        subst q0 q1 q2
        refine ⟨(b0, b1, b2), ?_, ?_, ?_, ?_, ?_⟩
        · have := hcell 0 (by omega)
          have z : (x.add (i * 3)).add 0 = x.add (i * 3) := by simp [Addr.add]
          rw [z] at this
          exact this
        · exact hcell 1 (by omega)
        · exact hcell 2 (by omega)
        · exact bounds_u8 wf0
        · have hD : D i = .agg (xs.map (·.1)) := (Prod.mk.inj hDi).1
          rw [hD]
          have hgo : (xs.map (·.1))[2]? = some (.lit (.string b2.data.toList)) := by rw [List.getElem?_map, g2, hy2]; rfl
          show b2.size ∈ DataW.weights Yba.prog 57 (.agg (xs.map (·.1)))
          simp only [DataW.weights, Yba.underlying57]
          exact DataW.weights_mem_each (t := 9) (j := 2) rfl hgo _ (by simp [DataW.weights])
    refine ⟨fun k => (V k).1, fun k => (V k).2.1, fun k => (V k).2.2, ⟨fun hp => ?_, fun k hk => (hV k (by omega)).2.2.2.1⟩, fun k hk => ?_, hw0⟩
    · obtain ⟨b, off, spot⟩ := x
      have h0 := (hV 0 (by omega)).1
      have hspot : spot = none := by simpa [Addr.add] using World.cell?_spot h0
      subst hspot
      have hb := block_lt_of_cell h0
      rw [add_plain] at hb
      refine ⟨b, off, rfl, hb, fun i hi => ?_⟩
      have hc := hV i (by omega)
      rw [add_plain, add_plain, add_plain] at hc
      exact ⟨hc.1, hc.2.1, hc.2.2.1⟩
    · have h5 := (hV k (by omega)).2.2.2.2
      have := hwt _ (show (V k).2.2.size ∈ DataW.weights Yba.prog 55 (.slice ((List.range len).map D) ((List.range (m - len)).map fun j => D (len + j))) by
        simp only [DataW.weights, Yba.underlying55, List.mem_cons, List.mem_append]
        exact .inr (.inl (weights_all (List.mem_map.2 ⟨k, List.mem_range.2 hk, rfl⟩) h5)))
      exact this
end
end Go.Proofs.Ybulkeesq
