/-
  No cell of these rows narrows 'for every input' (looked for: loops, veiled, ifaces, maps, wideKeys, modest, calm, conditions, laid).
  DERIVED. THE GIVEN ROWS OF THIS SEAT. 1 by the template 'for every input the law returns true; each argument reads behind the call as it read before'; 0 by the template 'total and deterministic' (their statements: YbulkeeraTotals.lean).
  GIVEN WITH THE SEED: the statements are not yours to turn. If you find one false, say at which input.
  Laid BY PROGRAM, IN A SANDBOX (cutbox-rows.mjs): the forced cells as the released guide's own fill.sh prints them over the translation 8e58d2e7eb8418d9… (all of the seat's roots in one cut). By AI agents, Wed Nov 11 2026. No macro, syntax, notation, axiom, sorry.
-/
import Derived.Test.YbulkeeraChecked
import GoSem.Claim
import GoSem.ClaimJoined
import GoSem.ClaimMapViews
import Derived.JoinedTies
import Derived.KernelRfl
namespace Go.Proofs.Ybulkeera
/- THE CELL 'sum', in the pinned program and in every row, IS THE sha256 OF THE DUMP (.gsa) THAT YbulkeeraProg.lean LOADS. Nothing in Lean hashes anything: it is a label: what it is worth is what the hold of that sum in a sandbox is worth. -/
noncomputable def Yba.pinned : Pinned := { name := "ybulkeera", sum := "8e58d2e7eb8418d9a9d64f76103c386511668e85bad2f36e9b3345f1575f1662", checked := Yba.checked }
namespace Rows
def none {H : Type} : Left H := { results := [], args := [] }

/-- 'http1.LawS6552AWhole': WHATEVER THE INPUT: true; the input reads as it did. -/
def lawS6552AWholeSpec : ChangeSpec := { name := "lawS6552AWhole", fn := fun _ => fun
  | [d1, d2] => { results := [.lit (.bool true)], args := [d1, d2] }
  | _ => none }
def lawS6552AWholeRow : OpenClaim := { program := "ybulkeera", sum := "8e58d2e7eb8418d9a9d64f76103c386511668e85bad2f36e9b3345f1575f1662", func := "example.com/spoolhouse/spoolhouse/internal/http1.LawS6552AWhole", spec := "lawS6552AWhole", apart := false }
def LawS6552AWholeSaid : Prop := lawS6552AWholeRow.holds Yba.pinned (OpenSpec.ofChange lawS6552AWholeSpec)

/-- ITS FALSE NEIGHBOUR: 'it returns false'. Refute it at one input. -/
def lawS6552AWholeWrong : ChangeSpec := { name := "lawS6552AWhole", fn := fun _ => fun
  | [d1, d2] => { results := [.lit (.bool false)], args := [d1, d2] }
  | _ => none }
def LawS6552AWholeWrongFalsely : Prop := lawS6552AWholeRow.holds Yba.pinned (OpenSpec.ofChange lawS6552AWholeWrong)

end Rows
end Go.Proofs.Ybulkeera
