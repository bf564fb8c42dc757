/-
  No cell of these rows narrows 'for every input' (looked for: loops, veiled, ifaces, maps, wideKeys, modest, calm, conditions, laid).
  DERIVED. THE GIVEN ROWS OF THIS SEAT. 1 by the template 'for every input the law returns true; each argument reads behind the call as it read before'; 0 by the template 'total and deterministic' (their statements: YbulkeesqFmtTotals.lean).
  GIVEN WITH THE SEED: the statements are not yours to turn. If you find one false, say at which input.
  Laid BY PROGRAM, IN A SANDBOX (cutbox-rows.mjs): the forced cells as the released guide's own fill.sh prints them over the translation 535f511e4c29cd3c… (all of the seat's roots in one cut). By AI agents, Wed Nov 11 2026. No macro, syntax, notation, axiom, sorry.
-/
import Derived.Test.YbulkeesqFmtChecked
import GoSem.Claim
import GoSem.ClaimJoined
import GoSem.ClaimMapViews
import Derived.JoinedTies
import Derived.KernelRfl
namespace Go.Proofs.YbulkeesqFmt
/- THE CELL 'sum', in the pinned program and in every row, IS THE sha256 OF THE DUMP (.gsa) THAT YbulkeesqFmtProg.lean LOADS. Nothing in Lean hashes anything: it is a label: what it is worth is what the hold of that sum in a sandbox is worth. -/
noncomputable def Ybaf.pinned : Pinned := { name := "ybulkeesqfmt", sum := "535f511e4c29cd3c4a8922aa85d48d3323dc243584cfac1119c0356249536b15", checked := Ybaf.checked }
namespace Rows
def none {H : Type} : Left H := { results := [], args := [] }

/-- 'amf0.LawS6555AWhole': WHATEVER THE INPUT: true; the input reads as it did. -/
def lawS6555AWholeSpec : ChangeSpec := { name := "lawS6555AWhole", fn := fun _ => fun
  | [d1, d2, d3, d4, d5] => { results := [.lit (.bool true)], args := [d1, d2, d3, d4, d5] }
  | _ => none }
def lawS6555AWholeRow : OpenClaim := { program := "ybulkeesqfmt", sum := "535f511e4c29cd3c4a8922aa85d48d3323dc243584cfac1119c0356249536b15", func := "example.com/amberwire/amberwire/amf0.LawS6555AWhole", spec := "lawS6555AWhole", stops := ["fmt.errorf"], inPlace := ["fmt.errorf"], named := ["encoding/binary.BigEndian"], apart := false }
/-- NO THEOREM (fmt's text is open here; it may be false): for the released tool's asking of the row's closed facts alone. THE STATEMENT IS 'LawS6555AWholeToldSaid' (YbulkeesqFmtCards.lean). -/
def LawS6555AWholeFormAsk : Prop := lawS6555AWholeRow.holds Ybaf.pinned (OpenSpec.ofChange lawS6555AWholeSpec)

/-- ITS FALSE NEIGHBOUR: 'it returns false'. Refute it at one input. -/
def lawS6555AWholeWrong : ChangeSpec := { name := "lawS6555AWhole", fn := fun _ => fun
  | [d1, d2, d3, d4, d5] => { results := [.lit (.bool false)], args := [d1, d2, d3, d4, d5] }
  | _ => none }
def LawS6555AWholeWrongFormAsk : Prop := lawS6555AWholeRow.holds Ybaf.pinned (OpenSpec.ofChange lawS6555AWholeWrong)

end Rows
end Go.Proofs.YbulkeesqFmt
