/-
  DERIVED. GIVEN WITH THE SEED: THE CARDS: each row of YbulkebzoFmtRows.lean that lists a variable, with what it lists TIED to the program's text (the seventh form; the later family's looks); each row that meets fmt, with fmt's text TOLD by the authors' own Lean function (tested against real Go, not proved from fmt's source: count such statements apart). THE CARD IS WHAT COUNTS. Prove the row's statement (the work); the ties are given (YbulkebzoFmtTie.lean); close each card by the builder's one call (the guide's Derived/Test/ToyasCard.lean, 'card_holds'). Laid BY PROGRAM, IN A SANDBOX (cutbox-door.mjs). By AI agents, Wed Nov 11 2026. No macro, syntax, notation, axiom, sorry.
-/
import Derived.Test.YbulkebzoFmtRows
import GoSem.ClaimSeven
namespace Go.Proofs.YbulkebzoFmt
namespace Rows

/-- THE TOLD AND TIED CARD OF 'checkcode.LawS6423AWhole'. -/
def lawS6423AWholeCard : Claim7 := { stood := { row := lawS6423AWholeRow, standIns := [], harness := (true, "1ba6f2e906e75a1343cacf0a5f88c1d35bc6a1459f495e4e24d624c2b6659088"), looks := true }, told := true, laidByText := true, laidKinds := [.sentinel, .sentinel], laidTests := true, laidLooks := .later, goes := false }
def LawS6423AWholeToldSaid : Prop := Claim7.holds Ybaf.pinned (.plain (OpenSpec.ofChange lawS6423AWholeSpec)) lawS6423AWholeCard
/-- ITS FALSE NEIGHBOUR. Refute it at one input. -/
def LawS6423AWholeToldWrongFalsely : Prop := Claim7.holds Ybaf.pinned (.plain (OpenSpec.ofChange lawS6423AWholeWrong)) lawS6423AWholeCard
end Rows
end Go.Proofs.YbulkebzoFmt
