/-
  No cell of these rows narrows 'for every input' (looked for: loops, veiled, ifaces, maps, wideKeys, modest, calm, conditions, laid).
  DERIVED. THE GIVEN ROWS OF THIS SEAT. 3 by the template 'for every input the law returns true; each argument reads behind the call as it read before'; 0 by the template 'total and deterministic' (their statements: YbulkebymTotals.lean).
  GIVEN WITH THE SEED: the statements are not yours to turn. If you find one false, say at which input.
  Laid BY PROGRAM, IN A SANDBOX (cutbox-rows.mjs): the forced cells as the released guide's own fill.sh prints them over the translation 7b51506d418f34f7… (all of the seat's roots in one cut). By AI agents, Wed Nov 11 2026. No macro, syntax, notation, axiom, sorry.
-/
import Derived.Test.YbulkebymChecked
import GoSem.Claim
import GoSem.ClaimJoined
import GoSem.ClaimMapViews
import Derived.JoinedTies
import Derived.KernelRfl
namespace Go.Proofs.Ybulkebym
/- THE CELL 'sum', in the pinned program and in every row, IS THE sha256 OF THE DUMP (.gsa) THAT YbulkebymProg.lean LOADS. Nothing in Lean hashes anything: it is a label: what it is worth is what the hold of that sum in a sandbox is worth. -/
noncomputable def Yba.pinned : Pinned := { name := "ybulkebym", sum := "7b51506d418f34f7f3085bb128554cd69b843971104196d62ab692aa56cc6d9e", checked := Yba.checked }
namespace Rows
def none {H : Type} : Left H := { results := [], args := [] }

/-- 'check.LawS6421AWhole': WHATEVER THE INPUT: true; the input reads as it did. -/
def lawS6421AWholeSpec : ChangeSpec := { name := "lawS6421AWhole", fn := fun _ => fun
  | [d] => { results := [.lit (.bool true)], args := [d] }
  | _ => none }
def lawS6421AWholeRow : OpenClaim := { program := "ybulkebym", sum := "7b51506d418f34f7f3085bb128554cd69b843971104196d62ab692aa56cc6d9e", func := "example.com/slackline/slackline/check.LawS6421AWhole", spec := "lawS6421AWhole", unfollowed := true, recurses := true, plainKeys := false, apart := false }
def LawS6421AWholeSaid : Prop := lawS6421AWholeRow.holds Yba.pinned (OpenSpec.ofChange lawS6421AWholeSpec)

/-- ITS FALSE NEIGHBOUR: 'it returns false'. Refute it at one input. -/
def lawS6421AWholeWrong : ChangeSpec := { name := "lawS6421AWhole", fn := fun _ => fun
  | [d] => { results := [.lit (.bool false)], args := [d] }
  | _ => none }
def LawS6421AWholeWrongFalsely : Prop := lawS6421AWholeRow.holds Yba.pinned (OpenSpec.ofChange lawS6421AWholeWrong)

/-- 'node.LawS6421BWhole': WHATEVER THE INPUT: true; the input reads as it did. -/
def lawS6421BWholeSpec : ChangeSpec := { name := "lawS6421BWhole", fn := fun _ => fun
  | [d1, d2] => { results := [.lit (.bool true)], args := [d1, d2] }
  | _ => none }
def lawS6421BWholeRow : OpenClaim := { program := "ybulkebym", sum := "7b51506d418f34f7f3085bb128554cd69b843971104196d62ab692aa56cc6d9e", func := "example.com/slackline/slackline/node.LawS6421BWhole", spec := "lawS6421BWhole", plainKeys := false, apart := false }
def LawS6421BWholeSaid : Prop := lawS6421BWholeRow.holds Yba.pinned (OpenSpec.ofChange lawS6421BWholeSpec)

/-- ITS FALSE NEIGHBOUR: 'it returns false'. Refute it at one input. -/
def lawS6421BWholeWrong : ChangeSpec := { name := "lawS6421BWhole", fn := fun _ => fun
  | [d1, d2] => { results := [.lit (.bool false)], args := [d1, d2] }
  | _ => none }
def LawS6421BWholeWrongFalsely : Prop := lawS6421BWholeRow.holds Yba.pinned (OpenSpec.ofChange lawS6421BWholeWrong)

/-- 'netnode.LawS6421CWhole': WHATEVER THE INPUT: true; the input reads as it did. -/
def lawS6421CWholeSpec : ChangeSpec := { name := "lawS6421CWhole", fn := fun _ => fun
  | [d1, d2, d3] => { results := [.lit (.bool true)], args := [d1, d2, d3] }
  | _ => none }
def lawS6421CWholeRow : OpenClaim := { program := "ybulkebym", sum := "7b51506d418f34f7f3085bb128554cd69b843971104196d62ab692aa56cc6d9e", func := "example.com/slackline/slackline/netnode.LawS6421CWhole", spec := "lawS6421CWhole", unfollowed := true, recurses := true, plainKeys := false, apart := false }
def LawS6421CWholeSaid : Prop := lawS6421CWholeRow.holds Yba.pinned (OpenSpec.ofChange lawS6421CWholeSpec)

/-- ITS FALSE NEIGHBOUR: 'it returns false'. Refute it at one input. -/
def lawS6421CWholeWrong : ChangeSpec := { name := "lawS6421CWhole", fn := fun _ => fun
  | [d1, d2, d3] => { results := [.lit (.bool false)], args := [d1, d2, d3] }
  | _ => none }
def LawS6421CWholeWrongFalsely : Prop := lawS6421CWholeRow.holds Yba.pinned (OpenSpec.ofChange lawS6421CWholeWrong)

end Rows
end Go.Proofs.Ybulkebym
