/- The law 6553C: its arguments and its state. -/
import Derived.Test.YbulkeeroCPlain
namespace Go.Proofs.Ybulkeero
open Go.RowKit Go.Joins

/-- One step handed in. -/
structure Stp where
  key : List Int
  far : List Int
  whole : Bool
  aside : Bool
  conf : Bool
  count : Int
  na : Option Addr
  nc : Nat
  vs : List Value
def Stp.none : Stp := ⟨[], [], false, false, false, 0, Option.none, 0, []⟩
def Stp.cells (s : Stp) : List Value := by8 s.key ++ (by8 s.far ++ [.bool s.whole, .bool s.aside, .bool s.conf, .int .i32 s.count, .slice s.na s.vs.length s.nc])
structure StpOk (w : World) (s : Stp) : Prop where
  lk : s.key.length = 20
  lf : s.far.length = 20
  bk : Byt s.key
  bf : Byt s.far
  src : s.vs = [] ∨ ∃ b o, s.na = some ⟨b, o, none⟩ ∧ b < w.heap.size ∧ w.rangeAt b o s.vs
  int : ∀ (j : Nat) (v : Value), s.vs[j]? = some v → ∃ m : Int, v = .int .u32 m

theorem Stp.cell_key {s : Stp} {j : Nat} {v : Value} (h : (by8 s.key)[j]? = some v) : s.cells[j]? = some v := by
  have hj := (List.getElem?_eq_some_iff.1 h).1
  rw [Stp.cells, List.getElem?_append_left hj]
  exact h
theorem Stp.cell_mid {s : Stp} (lk : s.key.length = 20) (j : Nat) : s.cells[20 + j]? = (by8 s.far ++ [.bool s.whole, .bool s.aside, .bool s.conf, .int .i32 s.count, .slice s.na s.vs.length s.nc])[j]? := by
  rw [Stp.cells, List.getElem?_append_right (by rw [by8_length]; omega), by8_length, lk, show 20 + j - 20 = j by omega]
theorem Stp.cell_far {s : Stp} (lk : s.key.length = 20) {j : Nat} {v : Value} (h : (by8 s.far)[j]? = some v) : s.cells[20 + j]? = some v := by
  have hj := (List.getElem?_eq_some_iff.1 h).1
  rw [Stp.cell_mid lk, List.getElem?_append_left hj]
  exact h
theorem Stp.cell_last {s : Stp} (lk : s.key.length = 20) (lf : s.far.length = 20) (j : Nat) : s.cells[40 + j]? = [Value.bool s.whole, .bool s.aside, .bool s.conf, .int .i32 s.count, .slice s.na s.vs.length s.nc][j]? := by
  rw [show 40 + j = 20 + (20 + j) by omega, Stp.cell_mid lk, List.getElem?_append_right (by rw [by8_length]; omega), by8_length, lf, show 20 + j - 20 = j by omega]

/-- All that stays the same through the law. -/
structure P5 where
  w0 : World
  sa : Option Addr
  sc : Nat
  ss : List Stp
  wid : Nat
  rb : Nat
  xb : Nat
  qb : Nat
  cb : Nat
  B : Nat
def P5.n (p : P5) : Nat := p.ss.length
def P5.st (p : P5) (m : Nat) : Stp := p.ss.getD m Stp.none
def P5.D (p : P5) (m : Nat) : Nat := rdep (p.st m).key (p.st m).far (p.st m).whole
def P5.P (p : P5) (m : Nat) : List Int := rpre (p.st m).key (p.st m).far (p.st m).whole
def P5.V (p : P5) (m : Nat) : List Value := room p.wid (p.st m).vs
def P5.E (p : P5) (its : Nat → Nat) (m : Nat) : List Value := entE (p.st m).key (p.st m).far (p.st m).count (p.st m).whole (p.st m).aside (p.st m).conf (its m)
theorem P5.Plen (p : P5) (m : Nat) : (p.P m).length = 20 := pre_length _ _

structure Ok5 (p : P5) : Prop where
  n : p.n ≤ 4096
  wid : p.wid ≤ 8
  each : ∀ m, m < p.n → StpOk p.w0 (p.st m)
  at' : p.n = 0 ∨ ∃ sb so, p.sa = some ⟨sb, so, none⟩ ∧ sb < p.w0.heap.size ∧ ∀ m, m < p.n → p.w0.rangeAt sb (so + m * 45) (p.st m).cells
  rb : p.w0.heap.size ≤ p.rb
  xb : p.rb < p.xb
  qb : p.xb < p.qb
  cb : p.qb < p.cb
  B : p.cb < p.B
theorem Ok5.Dle {p : P5} (h : Ok5 p) {m : Nat} (hm : m < p.n) : p.D m ≤ 160 := by
  have s := h.each m hm
  exact rdep_le s.bk s.bf s.lk s.lf

/-- The state behind i filings. -/
structure At2 (p : P5) (its : Nat → Nat) (cs : Nat → Row) (i : Nat) (gs : List Grp) (cnt foot : List Nat) (w : World) : Prop where
  below : Below p.w0.heap.size p.w0 w
  size : p.B ≤ w.heap.size
  idx : Idx p.B p.rb p.wid w gs cnt foot
  zero : i = 0 → EAt0 p.B p.rb p.wid w
  full : 0 < i → ∃ S, FAt p.B p.rb p.wid w S ∧ S.gs = gs ∧ S.cnt = cnt
  flt : ∀ b ∈ foot, b < w.heap.size
  qs : ∀ m, m < i → w.rangeAt p.qb (m * 21) (rcells (p.D m) (p.P m))
  qt : w.there p.qb 0 (p.n * 21)
  xs : ∀ m, m < i → w.cell? ⟨p.xb, m, none⟩ = some (.pointer (some ⟨its m, 0, none⟩))
  xt : w.there p.xb 0 p.n
  cc : ∀ m, m < i → w.cell? ⟨p.cb, m, none⟩ = some (cs m).val
  ct : w.there p.cb 0 p.n
  cn : ∀ m, m < i → (cs m).n = (p.st m).vs.length
  co : ∀ m, m < i → w.ownsRow p.B 23 1 (cs m).val (cs m).n (p.st m).vs
  cf : ∀ m, m < i → ∀ b ∈ rowFoot (cs m), b ∉ foot
  il : ∀ m, m < i → p.B ≤ its m ∧ its m ∉ foot ∧ its m < w.heap.size
  ifl : ∀ (k : Nat) (g : Grp) (q : PG), gs[k]? = some g → (pgs p.D p.P i)[k]? = some q → ∀ (pos m : Nat), q.ms[pos]? = some m → w.heap[its m]? = some (.cells (filed g.b pos) 137 (0, 0))
  rel : Rel (p.E its) p.V p.wid gs (pgs p.D p.P i)
  cnts : cnt = (List.range 161).map (fun d => cntD p.D d i)

theorem idx_grown {B rb wid : Nat} {w w' : World} {gs : List Grp} {cnt foot : List Nat} (h : Idx B rb wid w gs cnt foot) (G : w.grownBy w' none) : Idx B rb wid w' gs cnt foot := by
  cases h with
  | some S h => exact .some S (h.grown G)
  | none h => exact .none ⟨h.lt, Nat.le_trans h.size G.size, by rw [G.block rb (Nat.lt_of_lt_of_le h.lt h.size) (by simp)]; exact h.blk⟩
theorem below_grown {B : Nat} {w w' w'' : World} (h : Below B w w') (G : w'.grownBy w'' none) (hB : B ≤ w'.heap.size) : Below B w w'' := h.grown G hB (fun _ e => by cases e)

/-- Nothing but new blocks came. -/
theorem At2.grown {p : P5} {its : Nat → Nat} {cs : Nat → Row} {i : Nat} {gs : List Grp} {cnt foot : List Nat} {w w' : World} (h : At2 p its cs i gs cnt foot w) (ok : Ok5 p) (G : w.grownBy w' none) : At2 p its cs i gs cnt foot w' := by
  have F := fr_of_grown G
  have o1 := ok.rb
  have o2 := ok.xb
  have o3 := ok.qb
  have o4 := ok.cb
  have o5 := ok.B
  have o6 := h.size
  refine ⟨below_grown h.below G (by omega), Nat.le_trans o6 G.size, idx_grown h.idx G, fun e => ?_, fun e => ?_, fun b hb => Nat.lt_of_lt_of_le (h.flt b hb) G.size, fun m hm j v hj => F.cell (h.qs m hm j v hj) (fun e => e), there_fr h.qt F (fun e => e) (by omega), fun m hm => F.cell (h.xs m hm) (fun e => e), there_fr h.xt F (fun e => e) (by omega), fun m hm => F.cell (h.cc m hm) (fun e => e), there_fr h.ct F (fun e => e) (by omega), h.cn, fun m hm => owns_fr (h.co m hm) F (fun _ _ e => e), h.cf, fun m hm => ⟨(h.il m hm).1, (h.il m hm).2.1, Nat.lt_of_lt_of_le (h.il m hm).2.2 G.size⟩, fun k g q hg hq pos m hm => ?_, h.rel, h.cnts⟩
  · have z := h.zero e
    exact ⟨z.lt, Nat.le_trans z.size G.size, by rw [G.block p.rb (by omega) (by simp)]; exact z.blk⟩
  · obtain ⟨S, A, h1, h2⟩ := h.full e
    exact ⟨S, A.grown G, h1, h2⟩
  · have hl : m < i := (pgs_ms p.D p.P i k q hq).2 m (List.mem_of_getElem? hm)
    rw [F.block (its m) (h.il m hl).2.2 (fun e => e)]
    exact h.ifl k g q hg hq pos m hm

noncomputable def tailD (n : Nat) : Code := zdrop n (Yba.f5.body.getD .ret)
/-- What the law must end in. -/
def LawE (w0 : World) : Ending → World → Prop := fun e w' => e = .returned (.bool true) ∧ Below w0.heap.size w0 w'
end Go.Proofs.Ybulkeero
