/-
  No cell of these rows narrows 'for every input' (looked for: loops, veiled, ifaces, maps, wideKeys, modest, calm, conditions, laid).
  DERIVED. THE GIVEN ROWS OF THIS SEAT. 2 by the template 'for every input the law returns true; each argument reads behind the call as it read before'; 0 by the template 'total and deterministic' (their statements: YbulkeeroTotals.lean).
  GIVEN WITH THE SEED: the statements are not yours to turn. If you find one false, say at which input.
  Laid BY PROGRAM, IN A SANDBOX (cutbox-rows.mjs): the forced cells as the released guide's own fill.sh prints them over the translation 5ecae23058a86add… (all of the seat's roots in one cut). By AI agents, Wed Nov 11 2026. No macro, syntax, notation, axiom, sorry.
-/
import Derived.Test.YbulkeeroChecked
import GoSem.Claim
import GoSem.ClaimJoined
import GoSem.ClaimMapViews
import Derived.JoinedTies
import Derived.KernelRfl
namespace Go.Proofs.Ybulkeero
/- THE CELL 'sum', in the pinned program and in every row, IS THE sha256 OF THE DUMP (.gsa) THAT YbulkeeroProg.lean LOADS. Nothing in Lean hashes anything: it is a label: what it is worth is what the hold of that sum in a sandbox is worth. -/
noncomputable def Yba.pinned : Pinned := { name := "ybulkeero", sum := "5ecae23058a86add2912c1a56f2b3d793a752a603f9961426dd90de5657ca4a8", checked := Yba.checked }
namespace Rows
def none {H : Type} : Left H := { results := [], args := [] }

/-- 'record.LawS6553AWhole': WHATEVER THE INPUT: true; the input reads as it did. -/
def lawS6553AWholeSpec : ChangeSpec := { name := "lawS6553AWhole", fn := fun _ => fun
  | [d1, d2, d3, d4, d5, d6, d7, d8, d9, d10] => { results := [.lit (.bool true)], args := [d1, d2, d3, d4, d5, d6, d7, d8, d9, d10] }
  | _ => none }
def lawS6553AWholeRow : OpenClaim := { program := "ybulkeero", sum := "5ecae23058a86add2912c1a56f2b3d793a752a603f9961426dd90de5657ca4a8", func := "example.com/warren/warren/record.LawS6553AWhole", spec := "lawS6553AWhole", unfollowed := true, recurses := true, named := ["encoding/binary.BigEndian"], plainKeys := false, apart := false }
def LawS6553AWholeSaid : Prop := lawS6553AWholeRow.holds Yba.pinned (OpenSpec.ofChange lawS6553AWholeSpec)

/-- ITS FALSE NEIGHBOUR: 'it returns false'. Refute it at one input. -/
def lawS6553AWholeWrong : ChangeSpec := { name := "lawS6553AWhole", fn := fun _ => fun
  | [d1, d2, d3, d4, d5, d6, d7, d8, d9, d10] => { results := [.lit (.bool false)], args := [d1, d2, d3, d4, d5, d6, d7, d8, d9, d10] }
  | _ => none }
def LawS6553AWholeWrongFalsely : Prop := lawS6553AWholeRow.holds Yba.pinned (OpenSpec.ofChange lawS6553AWholeWrong)

/-- 'record.LawS6553CWhole': WHATEVER THE INPUT: true; the input reads as it did. -/
def lawS6553CWholeSpec : ChangeSpec := { name := "lawS6553CWhole", fn := fun _ => fun
  | [d1, d2] => { results := [.lit (.bool true)], args := [d1, d2] }
  | _ => none }
def lawS6553CWholeRow : OpenClaim := { program := "ybulkeero", sum := "5ecae23058a86add2912c1a56f2b3d793a752a603f9961426dd90de5657ca4a8", func := "example.com/warren/warren/record.LawS6553CWhole", spec := "lawS6553CWhole", unfollowed := true, recurses := true, named := ["encoding/binary.BigEndian"], plainKeys := false, apart := false }
def LawS6553CWholeSaid : Prop := lawS6553CWholeRow.holds Yba.pinned (OpenSpec.ofChange lawS6553CWholeSpec)

/-- ITS FALSE NEIGHBOUR: 'it returns false'. Refute it at one input. -/
def lawS6553CWholeWrong : ChangeSpec := { name := "lawS6553CWhole", fn := fun _ => fun
  | [d1, d2] => { results := [.lit (.bool false)], args := [d1, d2] }
  | _ => none }
def LawS6553CWholeWrongFalsely : Prop := lawS6553CWholeRow.holds Yba.pinned (OpenSpec.ofChange lawS6553CWholeWrong)

end Rows
end Go.Proofs.Ybulkeero
