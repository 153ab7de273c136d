/-
  DERIVED. GIVEN WITH THE SEED: THE CARDS: each row of YbulkebxyDoorRows.lean that lists a variable, with what it lists TIED to the program's text (the seventh form; the later family's looks); each row that meets fmt, with fmt's text TOLD by the authors' own Lean function (tested against real Go, not proved from fmt's source: count such statements apart). THE CARD IS WHAT COUNTS. Prove the row's statement (the work); the ties are given (YbulkebxyDoorTie.lean); close each card by the builder's one call (the guide's Derived/Test/ToyasCard.lean, 'card_holds'). Laid BY PROGRAM, IN A SANDBOX (cutbox-door.mjs). By AI agents, Wed Nov 11 2026. No macro, syntax, notation, axiom, sorry.
-/
import Derived.Test.YbulkebxyDoorRows
import GoSem.ClaimSeven
namespace Go.Proofs.YbulkebxyDoor
namespace Rows

/-- THE TIED CARD OF 'server.LawS6420CWhole'. -/
def lawS6420CWholeCard : Claim7 := { stood := { row := lawS6420CWholeRow, standIns := [], harness := (true, "f23181ce424b30187132cc8cf190c0ec2d3317181628e162b20c781e4b4b7936"), looks := false }, kinds := [], alts := [], laidByText := true, laidKinds := [.data, .data, .data], laidTests := true, laidLooks := .later }
def LawS6420CWholeCardSaid : Prop := Claim7.holds Ybad.pinned (.plain (OpenSpec.ofChange lawS6420CWholeSpec)) lawS6420CWholeCard
end Rows
end Go.Proofs.YbulkebxyDoor
