/-
  No cell of these rows narrows 'for every input' (looked for: loops, veiled, ifaces, maps, wideKeys, modest, calm, conditions, laid).
  DERIVED. THE GIVEN ROWS OF THIS SEAT. 2 by the template 'for every input the law returns true; each argument reads behind the call as it read before'; 0 by the template 'total and deterministic' (their statements: YbulkeescTotals.lean).
  GIVEN WITH THE SEED: the statements are not yours to turn. If you find one false, say at which input.
  Laid BY PROGRAM, IN A SANDBOX (cutbox-rows.mjs): the forced cells as the released guide's own fill.sh prints them over the translation 717a3d46e220a6ff… (all of the seat's roots in one cut). By AI agents, Wed Nov 11 2026. No macro, syntax, notation, axiom, sorry.
-/
import Derived.Test.YbulkeescChecked
import GoSem.Claim
import GoSem.ClaimJoined
import GoSem.ClaimMapViews
import Derived.JoinedTies
import Derived.KernelRfl
namespace Go.Proofs.Ybulkeesc
/- THE CELL 'sum', in the pinned program and in every row, IS THE sha256 OF THE DUMP (.gsa) THAT YbulkeescProg.lean LOADS. Nothing in Lean hashes anything: it is a label: what it is worth is what the hold of that sum in a sandbox is worth. -/
noncomputable def Yba.pinned : Pinned := { name := "ybulkeesc", sum := "717a3d46e220a6ffe724aceed7d499f6c9a694cca32c1cf1b68a7566d0a9924a", checked := Yba.checked }
namespace Rows
def none {H : Type} : Left H := { results := [], args := [] }

/-- 'eval.LawS6554CWhole': WHATEVER THE INPUT: true; the input reads as it did. -/
def lawS6554CWholeSpec : ChangeSpec := { name := "lawS6554CWhole", fn := fun _ => fun
  | [d1, d2, d3, d4] => { results := [.lit (.bool true)], args := [d1, d2, d3, d4] }
  | _ => none }
def lawS6554CWholeRow : OpenClaim := { program := "ybulkeesc", sum := "717a3d46e220a6ffe724aceed7d499f6c9a694cca32c1cf1b68a7566d0a9924a", func := "example.com/unfold-why/unfold-why/internal/eval.LawS6554CWhole", spec := "lawS6554CWhole", apart := false }
def LawS6554CWholeSaid : Prop := lawS6554CWholeRow.holds Yba.pinned (OpenSpec.ofChange lawS6554CWholeSpec)

/-- ITS FALSE NEIGHBOUR: 'it returns false'. Refute it at one input. -/
def lawS6554CWholeWrong : ChangeSpec := { name := "lawS6554CWhole", fn := fun _ => fun
  | [d1, d2, d3, d4] => { results := [.lit (.bool false)], args := [d1, d2, d3, d4] }
  | _ => none }
def LawS6554CWholeWrongFalsely : Prop := lawS6554CWholeRow.holds Yba.pinned (OpenSpec.ofChange lawS6554CWholeWrong)

/-- 'eval.LawS6554CTrip': WHATEVER THE INPUT: true; the input reads as it did. -/
def lawS6554CTripSpec : ChangeSpec := { name := "lawS6554CTrip", fn := fun _ => fun
  | [d1, d2, d3, d4] => { results := [.lit (.bool true)], args := [d1, d2, d3, d4] }
  | _ => none }
def lawS6554CTripRow : OpenClaim := { program := "ybulkeesc", sum := "717a3d46e220a6ffe724aceed7d499f6c9a694cca32c1cf1b68a7566d0a9924a", func := "example.com/unfold-why/unfold-why/internal/eval.LawS6554CTrip", spec := "lawS6554CTrip", apart := false }
def LawS6554CTripSaid : Prop := lawS6554CTripRow.holds Yba.pinned (OpenSpec.ofChange lawS6554CTripSpec)

/-- ITS FALSE NEIGHBOUR: 'it returns false'. Refute it at one input. -/
def lawS6554CTripWrong : ChangeSpec := { name := "lawS6554CTrip", fn := fun _ => fun
  | [d1, d2, d3, d4] => { results := [.lit (.bool false)], args := [d1, d2, d3, d4] }
  | _ => none }
def LawS6554CTripWrongFalsely : Prop := lawS6554CTripRow.holds Yba.pinned (OpenSpec.ofChange lawS6554CTripWrong)

end Rows
end Go.Proofs.Ybulkeesc
