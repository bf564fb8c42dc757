/- The law's arguments, opened. -/
import Derived.Test.YbulkeesqFmtLaw
import Derived.ProofKit
import Derived.OpenShut
import Derived.Deep.Slices
namespace Go.Proofs.YbulkeesqFmt
open Go.ChangeShapes Go.WideShapes Go.ChangeAt Go.RowKit Go.Joins Go.Deep

theorem Ybaf.cells5 : Ybaf.prog.cellsOf 5 = 1 := by kernel_rfl
theorem Ybaf.cells32 : Ybaf.prog.cellsOf 32 = 3 := by kernel_rfl
theorem Ybaf.cells4 : Ybaf.prog.cellsOf 4 = 1 := by kernel_rfl
theorem Ybaf.cells3 : Ybaf.prog.cellsOf 3 = 1 := by kernel_rfl
theorem Ybaf.cells30 : Ybaf.prog.cellsOf 30 = 1 := by kernel_rfl

section
variable {H : Type} {enc : TypeId × Value → H} {W : World} {base : Nat} {spare : Nat → Bool} {held : Bool}

theorem open_bytes {a : Option Addr} {len cap : Nat} {d : DataW H} {p : List MemPlace} (h : DataW.Trod enc Ybaf.prog W base spare held 22 (.slice a len cap) d p) (hsp : ∀ b, spare b = true) : ∃ f, Src W.heap.size W a len cap (cellsOf f len) := by
  obtain ⟨fuel, hf⟩ := h
  rcases open_slice1 Ybaf.underlying22 Ybaf.cells5 hf with ⟨hcs, _⟩ | ⟨x, l, c, m, n, V, D, Pl, hcs, _, hl, _, hm, _, hx⟩
  · simp [Value.cells] at hcs
    obtain ⟨rfl, rfl, rfl⟩ := hcs
    exact ⟨fun _ => 0, src_none⟩
  · simp [Value.cells] at hcs
    obtain ⟨rfl, rfl, rfl⟩ := hcs
    rw [hsp, if_pos rfl] at hm
    subst hm
    obtain ⟨f, hV⟩ := choose_lt (α := Int) (n := m) (p := fun i z => V i = .int .u8 z) fun i hi => by
      obtain ⟨z, e, _⟩ := DataW.trod_int Ybaf.underlying5 (hx i hi).2
      simp at e
      exact ⟨z, e⟩
    refine ⟨f, cellsOf_length _ _, cellsOf_one _ _, fun h => (nomatch h), ?_⟩
    rintro ad e j u hj
    cases e
    obtain ⟨hj1, rfl⟩ := cellsOf_lt hj
    have hc := (hx j (by omega)).1
    rw [hV j (by omega)] at hc
    exact ⟨block_lt_of_cell hc, hc⟩

theorem open_frames {a : Option Addr} {len cap : Nat} {d : DataW H} {p : List MemPlace} (h : DataW.Trod enc Ybaf.prog W base spare held 23 (.slice a len cap) d p) (hsp : ∀ b, spare b = true) : ∃ fs, ArgOpen W a len cap fs := by
  obtain ⟨fuel, hf⟩ := h
  rcases open_slice Ybaf.underlying23 hf with ⟨hcs, _⟩ | ⟨x, l, c, m, n, D, Pl, hcs, _, hl, _, hm, _, hx⟩
  · simp [Value.cells] at hcs
    obtain ⟨rfl, rfl, rfl⟩ := hcs
    exact ⟨[], rfl, fun _ => ⟨rfl, rfl⟩, fun h => absurd h (Nat.lt_irrefl _)⟩
  · simp [Value.cells] at hcs
    obtain ⟨rfl, rfl, rfl⟩ := hcs
    rw [hsp, if_pos rfl] at hm
    subst hm
    obtain ⟨V, hV⟩ := choose_lt (α := Bool × Int × Int) (n := m) (p := fun i q => W.cell? (x.add (i * 3)) = some (.bool q.1) ∧ W.cell? ((x.add (i * 3)).add 1) = some (.int .i64 q.2.1) ∧ W.cell? ((x.add (i * 3)).add 2) = some (.int .u64 q.2.2)) fun i hi => by
      obtain ⟨cs', h1, h2⟩ := hx i hi
      rw [Ybaf.cells32] at h1
      obtain ⟨_, hlen, hcell⟩ := World.cells?_some h1
      obtain ⟨xs, k, _, _, _, hxl, hfl⟩ := DataW.trod_struct Ybaf.underlying32 h2
      match cs', hlen with
      | [v0, v1, v2], _ =>
        have hs : ∀ i, i < 3 → (xs[i]?).isSome = true := fun i hi => by
          have : xs.length = 3 := hxl
          simp [this, hi]
        obtain ⟨y0, g0⟩ := Option.isSome_iff_exists.1 (hs 0 (by omega))
        obtain ⟨y1, g1⟩ := Option.isSome_iff_exists.1 (hs 1 (by omega))
        obtain ⟨y2, g2⟩ := Option.isSome_iff_exists.1 (hs 2 (by omega))
        have e0 : DataW.trod enc Ybaf.prog W base spare held k 4 [v0] = some y0 := by rw [← g0]; simpa [Ybaf.cells4] using hfl 0 _ rfl
        have e1 : DataW.trod enc Ybaf.prog W base spare held k 3 [v1] = some y1 := by rw [← g1]; simpa [Ybaf.cells3] using hfl 1 _ rfl
        have e2 : DataW.trod enc Ybaf.prog W base spare held k 30 [v2] = some y2 := by rw [← g2]; simpa [Ybaf.cells30] using hfl 2 _ rfl
        obtain ⟨b0, q0, _⟩ := DataW.trod_bool Ybaf.underlying4 e0
        obtain ⟨b1, q1, _⟩ := DataW.trod_int Ybaf.underlying3 e1
        obtain ⟨b2, q2, _⟩ := DataW.trod_int Ybaf.underlying30 e2
        simp at q0 q1 q2
        subst q0 q1 q2
        refine ⟨(b0, b1, b2), ?_, ?_, ?_⟩
        · have := hcell 0 (by omega)
          have z : (x.add (i * 3)).add 0 = x.add (i * 3) := by simp [Addr.add]
          rw [z] at this
          exact this
        · exact hcell 1 (by omega)
        · exact hcell 2 (by omega)
    refine ⟨(List.range len).map V, by simp, fun h => (nomatch h), fun hp => ?_⟩
    obtain ⟨b, off, spot⟩ := x
    have h0 := (hV 0 (by omega)).1
    have hspot : spot = none := by simpa [Addr.add] using World.cell?_spot h0
    subst hspot
    have hb := block_lt_of_cell h0
    rw [add_plain] at hb
    refine ⟨b, off, rfl, hb, fun i hi => ?_⟩
    have hi' : i < len := by simpa using hi
    have hc := hV i (by omega)
    rw [add_plain, add_plain, add_plain] at hc
    simpa using hc
end
end Go.Proofs.YbulkeesqFmt
