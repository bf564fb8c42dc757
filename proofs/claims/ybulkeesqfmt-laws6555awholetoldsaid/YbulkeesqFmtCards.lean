/-
  DERIVED. GIVEN WITH THE SEED: THE CARDS: each row of YbulkeesqFmtRows.lean that lists a variable, with what it lists TIED to the program's text (the seventh form; the later family's looks); each row that meets fmt, with fmt's text TOLD by the authors' own Lean function (tested against real Go, not proved from fmt's source: count such statements apart). THE CARD IS WHAT COUNTS. Prove the row's statement (the work); the ties are given (YbulkeesqFmtTie.lean); close each card by the builder's one call (the guide's Derived/Test/ToyasCard.lean, 'card_holds'). Laid BY PROGRAM, IN A SANDBOX (cutbox-door.mjs). By AI agents, Wed Nov 11 2026. No macro, syntax, notation, axiom, sorry.
-/
import Derived.Test.YbulkeesqFmtRows
import GoSem.ClaimSeven
namespace Go.Proofs.YbulkeesqFmt
namespace Rows

/-- THE TOLD CARD OF 'amf0.LawS6555AWhole'. -/
def lawS6555AWholeCard : Claim7 := { stood := { row := lawS6555AWholeRow, standIns := [], harness := (true, "4b29ad27bfe70de3436edf2f3d29fdd74a46c1cdb0938591ee6bf2cbf1c48074"), looks := true }, told := true, goes := false }
def LawS6555AWholeToldSaid : Prop := Claim7.holds Ybaf.pinned (.plain (OpenSpec.ofChange lawS6555AWholeSpec)) lawS6555AWholeCard
/-- ITS FALSE NEIGHBOUR. Refute it at one input. -/
def LawS6555AWholeToldWrongFalsely : Prop := Claim7.holds Ybaf.pinned (.plain (OpenSpec.ofChange lawS6555AWholeWrong)) lawS6555AWholeCard
end Rows
end Go.Proofs.YbulkeesqFmt
