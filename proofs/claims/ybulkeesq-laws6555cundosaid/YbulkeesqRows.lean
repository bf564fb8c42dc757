/-
  No cell of these rows narrows 'for every input' (looked for: loops, veiled, ifaces, maps, wideKeys, modest, calm, conditions, laid).
  DERIVED. THE GIVEN ROWS OF THIS SEAT. 2 by the template 'for every input the law returns true; each argument reads behind the call as it read before'; 0 by the template 'total and deterministic' (their statements: YbulkeesqTotals.lean).
  GIVEN WITH THE SEED: the statements are not yours to turn. If you find one false, say at which input.
  Laid BY PROGRAM, IN A SANDBOX (cutbox-rows.mjs): the forced cells as the released guide's own fill.sh prints them over the translation e9b2207df68c645f… (all of the seat's roots in one cut). By AI agents, Wed Nov 11 2026. No macro, syntax, notation, axiom, sorry.
-/
import Derived.Test.YbulkeesqChecked
import GoSem.Claim
import GoSem.ClaimJoined
import GoSem.ClaimMapViews
import Derived.JoinedTies
import Derived.KernelRfl
namespace Go.Proofs.Ybulkeesq
/- THE CELL 'sum', in the pinned program and in every row, IS THE sha256 OF THE DUMP (.gsa) THAT YbulkeesqProg.lean LOADS. Nothing in Lean hashes anything: it is a label: what it is worth is what the hold of that sum in a sandbox is worth. -/
noncomputable def Yba.pinned : Pinned := { name := "ybulkeesq", sum := "e9b2207df68c645f5a3e3dd5e5ac0617a3a27f68119b30e7292898882e40f12d", checked := Yba.checked }
namespace Rows
def none {H : Type} : Left H := { results := [], args := [] }

/-- 'value.LawS6555CWhole': WHATEVER THE INPUT: true; the input reads as it did. -/
def lawS6555CWholeSpec : ChangeSpec := { name := "lawS6555CWhole", fn := fun _ => fun
  | [d] => { results := [.lit (.bool true)], args := [d] }
  | _ => none }
def lawS6555CWholeRow : OpenClaim := { program := "ybulkeesq", sum := "e9b2207df68c645f5a3e3dd5e5ac0617a3a27f68119b30e7292898882e40f12d", func := "example.com/amberwire/amberwire/value.LawS6555CWhole", spec := "lawS6555CWhole", apart := false }
def LawS6555CWholeSaid : Prop := lawS6555CWholeRow.holds Yba.pinned (OpenSpec.ofChange lawS6555CWholeSpec)

/-- ITS FALSE NEIGHBOUR: 'it returns false'. Refute it at one input. -/
def lawS6555CWholeWrong : ChangeSpec := { name := "lawS6555CWhole", fn := fun _ => fun
  | [d] => { results := [.lit (.bool false)], args := [d] }
  | _ => none }
def LawS6555CWholeWrongFalsely : Prop := lawS6555CWholeRow.holds Yba.pinned (OpenSpec.ofChange lawS6555CWholeWrong)

/-- 'value.LawS6555CUndo': WHATEVER THE INPUT: true; the input reads as it did. -/
def lawS6555CUndoSpec : ChangeSpec := { name := "lawS6555CUndo", fn := fun _ => fun
  | [d1, d2, d3] => { results := [.lit (.bool true)], args := [d1, d2, d3] }
  | _ => none }
def lawS6555CUndoRow : OpenClaim := { program := "ybulkeesq", sum := "e9b2207df68c645f5a3e3dd5e5ac0617a3a27f68119b30e7292898882e40f12d", func := "example.com/amberwire/amberwire/value.LawS6555CUndo", spec := "lawS6555CUndo", apart := false }
def LawS6555CUndoSaid : Prop := lawS6555CUndoRow.holds Yba.pinned (OpenSpec.ofChange lawS6555CUndoSpec)

/-- ITS FALSE NEIGHBOUR: 'it returns false'. Refute it at one input. -/
def lawS6555CUndoWrong : ChangeSpec := { name := "lawS6555CUndo", fn := fun _ => fun
  | [d1, d2, d3] => { results := [.lit (.bool false)], args := [d1, d2, d3] }
  | _ => none }
def LawS6555CUndoWrongFalsely : Prop := lawS6555CUndoRow.holds Yba.pinned (OpenSpec.ofChange lawS6555CUndoWrong)

end Rows
end Go.Proofs.Ybulkeesq
