/-
  No cell of these rows narrows 'for every input' (looked for: loops, veiled, ifaces, maps, wideKeys, modest, calm, conditions, laid).
  DERIVED. THE GIVEN ROWS OF THIS SEAT. 2 by the template 'for every input the law returns true; each argument reads behind the call as it read before'; 0 by the template 'total and deterministic' (their statements: YbulkebwwTotals.lean).
  GIVEN WITH THE SEED: the statements are not yours to turn. If you find one false, say at which input.
  Laid BY PROGRAM, IN A SANDBOX (cutbox-rows.mjs): the forced cells as the released guide's own fill.sh prints them over the translation 9b216598351d1311… (all of the seat's roots in one cut). By AI agents, Wed Nov 11 2026. No macro, syntax, notation, axiom, sorry.
-/
import Derived.Test.YbulkebwwChecked
import GoSem.Claim
import GoSem.ClaimJoined
import GoSem.ClaimMapViews
import Derived.JoinedTies
import Derived.KernelRfl
namespace Go.Proofs.Ybulkebww
/- THE CELL 'sum', in the pinned program and in every row, IS THE sha256 OF THE DUMP (.gsa) THAT YbulkebwwProg.lean LOADS. Nothing in Lean hashes anything: it is a label: what it is worth is what the hold of that sum in a sandbox is worth. -/
noncomputable def Yba.pinned : Pinned := { name := "ybulkebww", sum := "9b216598351d13113a60dea956ac661751f7f441d22fea4a916988867579e88b", checked := Yba.checked }
namespace Rows
def none {H : Type} : Left H := { results := [], args := [] }

/-- 'penstock-go.LawS6418AWhole': WHATEVER THE INPUT: true; the input reads as it did. -/
def lawS6418AWholeSpec : ChangeSpec := { name := "lawS6418AWhole", fn := fun _ => fun
  | [d1, d2, d3, d4] => { results := [.lit (.bool true)], args := [d1, d2, d3, d4] }
  | _ => none }
def lawS6418AWholeRow : OpenClaim := { program := "ybulkebww", sum := "9b216598351d13113a60dea956ac661751f7f441d22fea4a916988867579e88b", func := "example.com/penstock-go/penstock-go.LawS6418AWhole", spec := "lawS6418AWhole", inPlace := ["runtime.Stack"], unfollowed := true, recurses := true, apart := false }
def LawS6418AWholeSaid : Prop := lawS6418AWholeRow.holds Yba.pinned (OpenSpec.ofChange lawS6418AWholeSpec)

/-- ITS FALSE NEIGHBOUR: 'it returns false'. Refute it at one input. -/
def lawS6418AWholeWrong : ChangeSpec := { name := "lawS6418AWhole", fn := fun _ => fun
  | [d1, d2, d3, d4] => { results := [.lit (.bool false)], args := [d1, d2, d3, d4] }
  | _ => none }
def LawS6418AWholeWrongFalsely : Prop := lawS6418AWholeRow.holds Yba.pinned (OpenSpec.ofChange lawS6418AWholeWrong)

/-- 'penstocktest.LawS6418BWhole': WHATEVER THE INPUT: true; the input reads as it did. -/
def lawS6418BWholeSpec : ChangeSpec := { name := "lawS6418BWhole", fn := fun _ => fun
  | [d1, d2] => { results := [.lit (.bool true)], args := [d1, d2] }
  | _ => none }
def lawS6418BWholeRow : OpenClaim := { program := "ybulkebww", sum := "9b216598351d13113a60dea956ac661751f7f441d22fea4a916988867579e88b", func := "example.com/penstock-go/penstock-go/penstocktest.LawS6418BWhole", spec := "lawS6418BWhole", apart := false }
def LawS6418BWholeSaid : Prop := lawS6418BWholeRow.holds Yba.pinned (OpenSpec.ofChange lawS6418BWholeSpec)

/-- ITS FALSE NEIGHBOUR: 'it returns false'. Refute it at one input. -/
def lawS6418BWholeWrong : ChangeSpec := { name := "lawS6418BWhole", fn := fun _ => fun
  | [d1, d2] => { results := [.lit (.bool false)], args := [d1, d2] }
  | _ => none }
def LawS6418BWholeWrongFalsely : Prop := lawS6418BWholeRow.holds Yba.pinned (OpenSpec.ofChange lawS6418BWholeWrong)

end Rows
end Go.Proofs.Ybulkebww
