/-
  No cell of these rows narrows 'for every input' (looked for: loops, veiled, ifaces, maps, wideKeys, modest, calm, conditions, laid).
  DERIVED. THE GIVEN ROWS OF THIS SEAT. 2 by the template 'for every input the law returns true; each argument reads behind the call as it read before'; 0 by the template 'total and deterministic' (their statements: YbulkclouTotals.lean).
  GIVEN WITH THE SEED: the statements are not yours to turn. If you find one false, say at which input.
  Laid BY PROGRAM, IN A SANDBOX (cutbox-rows.mjs): the forced cells as the released guide's own fill.sh prints them over the translation a8398f0342627b38… (all of the seat's roots in one cut). By AI agents, Wed Nov 11 2026. No macro, syntax, notation, axiom, sorry.
-/
import Derived.Test.YbulkclouChecked
import GoSem.Claim
import GoSem.ClaimJoined
import GoSem.ClaimMapViews
import Derived.JoinedTies
import Derived.KernelRfl
namespace Go.Proofs.Ybulkclou
/- THE CELL 'sum', in the pinned program and in every row, IS THE sha256 OF THE DUMP (.gsa) THAT YbulkclouProg.lean LOADS. Nothing in Lean hashes anything: it is a label: what it is worth is what the hold of that sum in a sandbox is worth. -/
noncomputable def Yba.pinned : Pinned := { name := "ybulkclou", sum := "a8398f0342627b383c4e6ef5acd5a5cddbef324637878998cef203f111f724c4", checked := Yba.checked }
namespace Rows
def none {H : Type} : Left H := { results := [], args := [] }

/-- 'repeats.LawS4375AAdvance': WHATEVER THE INPUT: true; the input reads as it did. -/
def lawS4375AAdvanceSpec : ChangeSpec := { name := "lawS4375AAdvance", fn := fun _ => fun
  | [d1, d2, d3, d4, d5] => { results := [.lit (.bool true)], args := [d1, d2, d3, d4, d5] }
  | _ => none }
def lawS4375AAdvanceRow : OpenClaim := { program := "ybulkclou", sum := "a8398f0342627b383c4e6ef5acd5a5cddbef324637878998cef203f111f724c4", func := "example.com/qarzkit/qarzkit/internal/repeats.LawS4375AAdvance", spec := "lawS4375AAdvance", unfollowed := true, recurses := true, apart := false }
def LawS4375AAdvanceSaid : Prop := lawS4375AAdvanceRow.holds Yba.pinned (OpenSpec.ofChange lawS4375AAdvanceSpec)

/-- ITS FALSE NEIGHBOUR: 'it returns false'. Refute it at one input. -/
def lawS4375AAdvanceWrong : ChangeSpec := { name := "lawS4375AAdvance", fn := fun _ => fun
  | [d1, d2, d3, d4, d5] => { results := [.lit (.bool false)], args := [d1, d2, d3, d4, d5] }
  | _ => none }
def LawS4375AAdvanceWrongFalsely : Prop := lawS4375AAdvanceRow.holds Yba.pinned (OpenSpec.ofChange lawS4375AAdvanceWrong)

/-- 'repeats.LawS4375BWritePages': WHATEVER THE INPUT: true; the input reads as it did. -/
def lawS4375BWritePagesSpec : ChangeSpec := { name := "lawS4375BWritePages", fn := fun _ => fun
  | [d1, d2, d3, d4, d5] => { results := [.lit (.bool true)], args := [d1, d2, d3, d4, d5] }
  | _ => none }
def lawS4375BWritePagesRow : OpenClaim := { program := "ybulkclou", sum := "a8398f0342627b383c4e6ef5acd5a5cddbef324637878998cef203f111f724c4", func := "example.com/qarzkit/qarzkit/internal/repeats.LawS4375BWritePages", spec := "lawS4375BWritePages", unfollowed := true, recurses := true, apart := false }
def LawS4375BWritePagesSaid : Prop := lawS4375BWritePagesRow.holds Yba.pinned (OpenSpec.ofChange lawS4375BWritePagesSpec)

/-- ITS FALSE NEIGHBOUR: 'it returns false'. Refute it at one input. -/
def lawS4375BWritePagesWrong : ChangeSpec := { name := "lawS4375BWritePages", fn := fun _ => fun
  | [d1, d2, d3, d4, d5] => { results := [.lit (.bool false)], args := [d1, d2, d3, d4, d5] }
  | _ => none }
def LawS4375BWritePagesWrongFalsely : Prop := lawS4375BWritePagesRow.holds Yba.pinned (OpenSpec.ofChange lawS4375BWritePagesWrong)

end Rows
end Go.Proofs.Ybulkclou
