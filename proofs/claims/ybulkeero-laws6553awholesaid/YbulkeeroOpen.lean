/- The law's arguments, opened: arrays of bytes, a slice of bytes, a slice of ids. -/
import Derived.Test.YbulkeeroLaw
import Derived.ProofKit
import Derived.OpenShut
import Derived.Deep.Slices
import Derived.SizedLaws
namespace Go.Proofs.Ybulkeero
open Go.ChangeShapes Go.WideShapes Go.ChangeAt Go.RowKit Go.Joins Go.Deep

theorem Yba.cells22 : Yba.prog.cellsOf 22 = 20 := by kernel_rfl
theorem Yba.cells24 : Yba.prog.cellsOf 24 = 64 := by kernel_rfl

section
variable {H : Type} {enc : TypeId × Value → H} {W : World} {base : Nat} {spare : Nat → Bool} {held : Bool}

theorem open_cells {t n fuel : Nat} {cs : List Value} {x : DataW H × List MemPlace} (ht : Yba.prog.underlying t = some (.array n 5)) (hc : Yba.prog.cellsOf t = n) (h : DataW.trod enc Yba.prog W base spare held fuel t cs = some x) : ∃ l : List Int, l.length = n ∧ cs = by8 l := by
  obtain ⟨xs, m, _, _, hl, hxl, hx⟩ := DataW.trod_array ht h
  rw [hc] at hl
  obtain ⟨f, hf⟩ := choose_lt (α := Int) (n := n) (p := fun i b => cs[i]? = some (.int .u8 b)) fun i hi => by
    have h1 := hx i hi
    rw [Yba.cells5, Nat.mul_one] at h1
    rw [List.getElem?_eq_getElem (by omega)] at h1
    obtain ⟨b, hb, _⟩ := DataW.trod_int Yba.underlying5 h1
    refine ⟨b, ?_⟩
    have : ((cs.drop i).take 1)[0]? = some (.int .u8 b) := by rw [hb]; rfl
    rw [List.getElem?_take_of_lt (by decide), List.getElem?_drop, Nat.add_zero] at this
    exact this
  refine ⟨(List.range n).map f, by simp, ?_⟩
  apply List.ext_getElem?
  intro i
  unfold by8
  rw [List.map_map, List.getElem?_map]
  by_cases hi : i < n
  · rw [hf i hi, List.getElem?_range hi]; rfl
  · rw [List.getElem?_eq_none (by omega), List.getElem?_eq_none (by simp; omega)]; rfl

set_option maxRecDepth 100000 in
theorem open_array {t n : Nat} {v : Value} {d : DataW H} {p : List MemPlace} (ht : Yba.prog.underlying t = some (.array n 5)) (hc : Yba.prog.cellsOf t = n) (hv : Value.okWide Yba.prog W .any base t v) {b2 : Nat} (h : DataW.Trod enc Yba.prog W b2 spare held t v d p) : ∃ l : List Int, l.length = n ∧ v = .agg (by8 l).toArray := by
  unfold Value.okWide at hv
  rw [ht] at hv
  obtain ⟨cs, rfl, _, _⟩ := hv
  obtain ⟨fuel, hf⟩ := h
  obtain ⟨l, hl, hcs⟩ := open_cells ht hc hf
  refine ⟨l, hl, ?_⟩
  have : cs.toList = by8 l := hcs
  rw [← this]

/-- Bytes, cell by cell. -/
theorem range_cells {x : Addr} {N : Nat} (h : ∀ j, j < N → ∃ b : Int, W.cell? (x.add j) = some (.int .u8 b)) : ∃ l : List Int, l.length = N ∧ (N = 0 ∨ ∃ b o, x = ⟨b, o, Option.none⟩ ∧ W.rangeAt b o (by8 l)) := by
  obtain ⟨f, hf⟩ := choose_lt (α := Int) (n := N) (p := fun j b => W.cell? (x.add j) = some (.int .u8 b)) h
  refine ⟨(List.range N).map f, by simp, ?_⟩
  rcases Nat.eq_zero_or_pos N with h0 | h0
  · exact .inl h0
  · right
    obtain ⟨b, off, spot⟩ := x
    have hz := hf 0 h0
    have hspot : spot = Option.none := by simpa [Addr.add] using World.cell?_spot hz
    subst hspot
    refine ⟨b, off, rfl, fun j v hj => ?_⟩
    have hj' : j < N := by
      have := (List.getElem?_eq_some_iff.1 hj).1
      simpa [by8] using this
    have e : (by8 ((List.range N).map f))[j]? = some (.int .u8 (f j)) := by
      unfold by8
      rw [List.map_map, List.getElem?_map, List.getElem?_range hj']; rfl
    rw [e] at hj
    cases hj
    have := hf j hj'
    rwa [add_plain] at this

theorem open_bytes {a : Option Addr} {len cap : Nat} {d : DataW H} {p : List MemPlace} (h : DataW.Trod enc Yba.prog W base spare held 25 (.slice a len cap) d p) : ∃ l : List Int, Bytes W a len l ∧ (a = Option.none → len = 0) := by
  obtain ⟨fuel, hf⟩ := h
  rcases open_slice1 Yba.underlying25 Yba.cells5 hf with ⟨hcs, _⟩ | ⟨x, l, c, m, n, V, D, Pl, hcs, _, hl, _, hm, _, hx⟩
  · simp [Value.cells] at hcs
    obtain ⟨rfl, rfl, rfl⟩ := hcs
    exact ⟨[], ⟨rfl, .inl rfl⟩, fun _ => rfl⟩
  · simp [Value.cells] at hcs
    obtain ⟨rfl, rfl, rfl⟩ := hcs
    obtain ⟨l, h1, h2⟩ := range_cells (W := W) (x := x) (N := len) fun j hj => by
      obtain ⟨h3, h4⟩ := hx j (by split at hm <;> omega)
      obtain ⟨b, hb, _⟩ := DataW.trod_int Yba.underlying5 h4
      simp at hb
      exact ⟨b, by rw [h3, hb]⟩
    refine ⟨l, ⟨h1, ?_⟩, fun e => by cases e⟩
    rcases h2 with h2 | ⟨b, o, rfl, h2⟩
    · exact .inl h2
    · exact .inr ⟨b, o, rfl, h2⟩

theorem open_ids {a : Option Addr} {len cap : Nat} {d : DataW H} {p : List MemPlace} (h : DataW.Trod enc Yba.prog W base spare held 26 (.slice a len cap) d p) : ∃ l : List Int, IdsAt W a len l := by
  obtain ⟨fuel, hf⟩ := h
  rcases open_slice Yba.underlying26 hf with ⟨hcs, _⟩ | ⟨x, l, c, m, n, D, Pl, hcs, _, hl, _, hm, _, hx⟩
  · simp [Value.cells] at hcs
    obtain ⟨rfl, rfl, rfl⟩ := hcs
    exact ⟨[], ⟨rfl, .inl rfl⟩⟩
  · simp [Value.cells] at hcs
    obtain ⟨rfl, rfl, rfl⟩ := hcs
    obtain ⟨l, h1, h2⟩ := range_cells (W := W) (x := x) (N := len * 20) fun j hj => by
      obtain ⟨cs', h3, h4⟩ := hx (j / 20) (by split at hm <;> omega)
      rw [Yba.cells22] at h3
      obtain ⟨_, hlen, hcell⟩ := World.cells?_some h3
      obtain ⟨l', hl', rfl⟩ := open_cells Yba.underlying22 Yba.cells22 h4
      have h5 := hcell (j % 20) (by omega)
      rw [add_add, show j / 20 * 20 + j % 20 = j by omega] at h5
      exact ⟨l'[j % 20]'(by omega), by rw [h5]; simp [by8]⟩
    refine ⟨l, ⟨h1, ?_⟩⟩
    rcases h2 with h2 | ⟨b, o, rfl, h2⟩
    · exact .inl (by omega)
    · exact .inr ⟨b, o, rfl, h2⟩
end
end Go.Proofs.Ybulkeero
