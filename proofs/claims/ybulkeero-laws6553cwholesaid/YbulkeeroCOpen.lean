/- The law 6553C: its arguments, opened. -/
import Derived.Test.YbulkeeroD0
import Derived.ProofKit
import Derived.OpenShut
import Derived.Deep.Slices
import Derived.SizedLaws
namespace Go.Proofs.Ybulkeero
open Go.ChangeShapes Go.WideShapes Go.ChangeAt Go.RowKit Go.Joins Go.Deep

instance : Inhabited Stp := ⟨Stp.none⟩
theorem Yba.cellsC22 : Yba.prog.cellsOf 22 = 20 := by kernel_rfl
theorem Yba.cellsC4 : Yba.prog.cellsOf 4 = 1 := by kernel_rfl
theorem Yba.cellsC21 : Yba.prog.cellsOf 21 = 1 := by kernel_rfl
theorem Yba.cellsC23 : Yba.prog.cellsOf 23 = 1 := by kernel_rfl
theorem Yba.cellsC47 : Yba.prog.cellsOf 47 = 1 := by kernel_rfl
theorem Yba.cellsC123 : Yba.prog.cellsOf 123 = 45 := by kernel_rfl
theorem Yba.bytesC23 : Yba.prog.bytesOf 23 = 4 := by kernel_rfl
theorem weights_allMem {H : Type} {P : Program} {e : TypeId} : ∀ {ds : List (DataW H)} {d : DataW H}, d ∈ ds → ∀ n ∈ d.weights P e, n ∈ DataW.weightsAll P e ds
  | d0 :: ds, d, hd, n, hn => by
    simp only [DataW.weightsAll, List.mem_append]
    rcases List.mem_cons.1 hd with rfl | h
    · exact Or.inl hn
    · exact Or.inr (weights_allMem h n hn)

section
variable {H : Type} {enc : TypeId × Value → H} {W : World} {base : Nat} {spare : Nat → Bool} {held : Bool}

theorem open_id {fuel : Nat} {cs : List Value} {x : DataW H × List MemPlace} (h : DataW.trod enc Yba.prog W base spare held fuel 22 cs = some x) : ∃ l : List Int, l.length = 20 ∧ Byt l ∧ cs = by8 l := by
  obtain ⟨xs, m, _, _, hl, hxl, hx⟩ := DataW.trod_array Yba.underlying22 h
  rw [Yba.cellsC22] at hl
  obtain ⟨f, hf⟩ := choose_lt (α := Int) (n := 20) (p := fun i b => cs[i]? = some (.int .u8 b) ∧ 0 ≤ b ∧ b ≤ 255) fun i hi => by
    have h1 := hx i hi
    rw [Yba.cells5, Nat.mul_one] at h1
    rw [List.getElem?_eq_getElem (by omega)] at h1
    obtain ⟨b, hb, _, hwf⟩ := DataW.trod_int Yba.underlying5 h1
    refine ⟨b, ?_, bounds_u8 hwf⟩
    have : ((cs.drop i).take 1)[0]? = some (.int .u8 b) := by rw [hb]; rfl
    rw [List.getElem?_take_of_lt (by decide), List.getElem?_drop, Nat.add_zero] at this
    exact this
  refine ⟨(List.range 20).map f, by rw [List.length_map, List.length_range], fun z hz => ?_, ?_⟩
  · obtain ⟨i, hi, rfl⟩ := List.mem_map.1 hz
    exact (hf i (List.mem_range.1 hi)).2
  · apply List.ext_getElem?
    intro i
    unfold by8
    rw [List.map_map, List.getElem?_map]
    by_cases hi : i < 20
    · rw [(hf i hi).1, List.getElem?_range hi]; rfl
    · rw [List.getElem?_eq_none (by omega), List.getElem?_eq_none (by rw [List.length_range]; omega)]; rfl

theorem one_cell {cs : List Value} {o : Nat} {v : Value} (h : (cs.drop o).take 1 = [v]) : cs.drop o = v :: cs.drop (o + 1) := by
  have := List.take_append_drop 1 (cs.drop o)
  rw [h, List.drop_drop] at this
  simpa using this.symm

/-- The nodes of a step. -/
theorem open_nodes {fuel : Nat} {cs : List Value} {x : DataW H × List MemPlace} (h : DataW.trod enc Yba.prog W base spare held fuel 47 cs = some x) : ∃ (na : Option Addr) (nc : Nat) (vs : List Value), cs = [.slice na vs.length nc] ∧ (vs = [] ∨ ∃ b o, na = some ⟨b, o, none⟩ ∧ b < W.heap.size ∧ W.rangeAt b o vs) ∧ (∀ (j : Nat) (v : Value), vs[j]? = some v → ∃ m : Int, v = .int .u32 m) ∧ ((∀ n ∈ x.1.weights Yba.prog 47, n ≤ reachBytes) → vs.length ≤ 1000000000000000) := by
  rcases open_slice1 Yba.underlying47 Yba.cellsC23 h with ⟨hcs, _⟩ | ⟨a, len, cap, m, n, V, D, Pl, hcs, _, hl, _, hm, hxe, hx⟩
  · exact ⟨none, 0, [], hcs, .inl rfl, fun j v hj => by simp at hj, fun _ => by simp⟩
  · have hlm : len ≤ m := by split at hm <;> omega
    have hvl : ((List.range len).map V).length = len := by rw [List.length_map, List.length_range]
    have hget : ∀ (j : Nat) (v : Value), ((List.range len).map V)[j]? = some v → j < len ∧ v = V j := fun j v hj => by
      have hjl := (List.getElem?_eq_some_iff.1 hj).1
      rw [hvl] at hjl
      rw [List.getElem?_map, List.getElem?_range hjl] at hj
      exact ⟨hjl, (Option.some.inj hj).symm⟩
    refine ⟨some a, cap, (List.range len).map V, by rw [hvl]; exact hcs, ?_, fun j v hj => ?_, fun hw => ?_⟩
    · rcases Nat.eq_zero_or_pos len with h0 | h0
      · left
        rw [h0]
        rfl
      · right
        obtain ⟨b, off, spot⟩ := a
        have hz := (hx 0 (by omega)).1
        have hspot : spot = Option.none := by simpa [Addr.add] using World.cell?_spot hz
        subst hspot
        refine ⟨b, off, rfl, ?_, fun j v hj => ?_⟩
        · rw [add_plain] at hz
          exact block_lt_of_cell hz
        · obtain ⟨h1, rfl⟩ := hget j v hj
          have := (hx j (by omega)).1
          rwa [add_plain] at this
    · obtain ⟨h1, rfl⟩ := hget j v hj
      obtain ⟨b, hb, _⟩ := DataW.trod_int Yba.underlying23 (hx j (by omega)).2
      exact ⟨b, by simpa using hb⟩
    · rw [hvl]
      have h4 := hw (len * 4 + (m - len) * 4) (by
        rw [hxe]
        simp only [DataW.weights, Yba.underlying47, List.length_map, List.length_range, Yba.bytesC23, List.mem_cons]
        left
        rw [Nat.add_mul])
      have h5 : reachBytes = 140737488351232 := rfl
      rw [h5] at h4
      omega

/-- A step. -/
theorem open_step {fuel : Nat} {cs : List Value} {x : DataW H × List MemPlace} (h : DataW.trod enc Yba.prog W base spare held fuel 123 cs = some x) (hw : ∀ n ∈ x.1.weights Yba.prog 123, n ≤ reachBytes) : ∃ s : Stp, cs = s.cells ∧ StpOk W s ∧ s.vs.length ≤ 1000000000000000 := by
  obtain ⟨xs, n, _, hxe, hl, hxl, hx⟩ := DataW.trod_struct Yba.underlying123 h
  rw [Yba.cellsC123] at hl
  have hxl7 : xs.length = 7 := hxl
  have g : ∀ i, i < 7 → xs[i]? = some xs[i]! := fun i hi => by rw [List.getElem?_eq_getElem (by omega)]; simp [hxl7, hi]
  have f0 : DataW.trod enc Yba.prog W base spare held n 22 ((cs.drop 0).take (Yba.prog.cellsOf 22)) = xs[0]? := hx 0 _ rfl
  have f1 : DataW.trod enc Yba.prog W base spare held n 22 ((cs.drop 20).take (Yba.prog.cellsOf 22)) = xs[1]? := hx 1 _ rfl
  have f2 : DataW.trod enc Yba.prog W base spare held n 4 ((cs.drop 40).take (Yba.prog.cellsOf 4)) = xs[2]? := hx 2 _ rfl
  have f3 : DataW.trod enc Yba.prog W base spare held n 4 ((cs.drop 41).take (Yba.prog.cellsOf 4)) = xs[3]? := hx 3 _ rfl
  have f4 : DataW.trod enc Yba.prog W base spare held n 4 ((cs.drop 42).take (Yba.prog.cellsOf 4)) = xs[4]? := hx 4 _ rfl
  have f5 : DataW.trod enc Yba.prog W base spare held n 21 ((cs.drop 43).take (Yba.prog.cellsOf 21)) = xs[5]? := hx 5 _ rfl
  have f6 : DataW.trod enc Yba.prog W base spare held n 47 ((cs.drop 44).take (Yba.prog.cellsOf 47)) = xs[6]? := hx 6 _ rfl
  rw [g 0 (by decide), Yba.cellsC22] at f0
  rw [g 1 (by decide), Yba.cellsC22] at f1
  rw [g 2 (by decide), Yba.cellsC4] at f2
  rw [g 3 (by decide), Yba.cellsC4] at f3
  rw [g 4 (by decide), Yba.cellsC4] at f4
  rw [g 5 (by decide), Yba.cellsC21] at f5
  rw [g 6 (by decide), Yba.cellsC47] at f6
  obtain ⟨key, lk, bk, e0⟩ := open_id f0
  obtain ⟨far, lf, bf, e1⟩ := open_id f1
  obtain ⟨whole, e2, _⟩ := DataW.trod_bool Yba.underlying4 f2
  obtain ⟨aside, e3, _⟩ := DataW.trod_bool Yba.underlying4 f3
  obtain ⟨conf, e4, _⟩ := DataW.trod_bool Yba.underlying4 f4
  obtain ⟨count, e5, _⟩ := DataW.trod_int Yba.underlying21 f5
  obtain ⟨na, nc, vs, e6, hsrc, hint, hsz⟩ := open_nodes f6
  refine ⟨⟨key, far, whole, aside, conf, count, na, nc, vs⟩, ?_, ⟨lk, lf, bk, bf, hsrc, hint⟩, hsz (fun m hm => hw m ?_)⟩
  · have h0 : cs = by8 key ++ cs.drop 20 := by
      have := List.take_append_drop 20 cs
      rw [show cs.take 20 = by8 key from e0] at this
      exact this.symm
    have h1 : cs.drop 20 = by8 far ++ cs.drop 40 := by
      have := List.take_append_drop 20 (cs.drop 20)
      rw [show (cs.drop 20).take 20 = by8 far from e1, List.drop_drop] at this
      exact this.symm
    have h2 := one_cell (o := 40) e2
    have h3 := one_cell (o := 41) e3
    have h4 := one_cell (o := 42) e4
    have h5 := one_cell (o := 43) e5
    have h6 := one_cell (o := 44) e6
    have h7 : cs.drop 45 = [] := List.drop_eq_nil_of_le (by omega)
    rw [h0, h1, h2, h3, h4, h5, h6, h7]
    rfl
  · rw [hxe]
    have h1 : (Yba.prog.underlying 123) = some (.struct _) := Yba.underlying123
    simp only [DataW.weights, h1]
    refine DataW.weights_mem_each (j := 6) (t := 47) (d := xs[6]!.1) rfl ?_ m hm
    rw [List.getElem?_map, g 6 (by decide)]
    rfl

theorem open_steps {sa : Option Addr} {len cap : Nat} {d : DataW H} {p : List MemPlace} (h : DataW.Trod enc Yba.prog W base spare held 121 (.slice sa len cap) d p) (hw : ∀ n ∈ d.weights Yba.prog 121, n ≤ reachBytes) : ∃ ss : List Stp, ss.length = len ∧ Args5 W sa ss := by
  obtain ⟨fuel, hf⟩ := h
  rcases open_slice Yba.underlying121 hf with ⟨hcs, _⟩ | ⟨x, l, c, m, n, D, Pl, hcs, _, hl, _, hm, hxe, hx⟩
  · simp [Value.cells] at hcs
    obtain ⟨rfl, rfl, rfl⟩ := hcs
    exact ⟨[], rfl, ⟨fun m s hs => by simp at hs, .inl rfl⟩⟩
  · simp [Value.cells] at hcs
    obtain ⟨rfl, rfl, rfl⟩ := hcs
    have hlm : len ≤ m := by split at hm <;> omega
    rw [Yba.cellsC123] at hx
    have hd : d = .slice ((List.range len).map D) ((List.range (m - len)).map fun j => D (len + j)) := congrArg Prod.fst hxe
    obtain ⟨f, hf'⟩ := choose_lt (α := Stp) (n := len) (p := fun i s => (∀ (j : Nat) (v : Value), s.cells[j]? = some v → W.cell? (x.add (i * 45 + j)) = some v) ∧ s.cells.length = 45 ∧ StpOk W s ∧ s.vs.length ≤ 1000000000000000) fun i hi => by
      obtain ⟨cs', h3, h4⟩ := hx i (by omega)
      obtain ⟨_, hlen, hcell⟩ := World.cells?_some h3
      obtain ⟨s, rfl, h5, h6⟩ := open_step h4 (fun k hk => hw k (by
        rw [hd]
        simp only [DataW.weights, Yba.underlying121, List.mem_cons, List.mem_append]
        exact .inr (.inl (weights_allMem (List.mem_map.2 ⟨i, List.mem_range.2 hi, rfl⟩) k hk))))
      refine ⟨s, fun j v hj => ?_, hlen, h5, h6⟩
      have hjl := (List.getElem?_eq_some_iff.1 hj).1
      have h7 := hcell j (by omega)
      rw [add_add] at h7
      rw [h7]
      exact hj
    have hsl : ((List.range len).map f).length = len := by rw [List.length_map, List.length_range]
    have hget : ∀ (j : Nat) (s : Stp), ((List.range len).map f)[j]? = some s → j < len ∧ s = f j := fun j s hj => by
      have hjl := (List.getElem?_eq_some_iff.1 hj).1
      rw [hsl] at hjl
      rw [List.getElem?_map, List.getElem?_range hjl] at hj
      exact ⟨hjl, (Option.some.inj hj).symm⟩
    refine ⟨(List.range len).map f, hsl, ⟨fun k s hs => ?_, ?_⟩⟩
    · obtain ⟨h1, rfl⟩ := hget k s hs
      exact (hf' k h1).2.2
    · rcases Nat.eq_zero_or_pos len with h0 | h0
      · left
        rw [hsl]
        exact h0
      · right
        obtain ⟨b, off, spot⟩ := x
        obtain ⟨c1, c2, _⟩ := hf' 0 h0
        have hz := c1 0 _ (List.getElem?_eq_getElem (by omega))
        have hspot : spot = Option.none := by simpa [Addr.add] using World.cell?_spot hz
        subst hspot
        refine ⟨b, off, rfl, ?_, fun k s hs j v hj => ?_⟩
        · rw [add_plain] at hz
          exact block_lt_of_cell hz
        · obtain ⟨h1, rfl⟩ := hget k s hs
          have := (hf' k h1).1 j v hj
          rw [add_plain] at this
          rw [Nat.add_assoc]
          exact this
end
end Go.Proofs.Ybulkeero
