/-
  No cell of these rows narrows 'for every input' (looked for: loops, veiled, ifaces, maps, wideKeys, modest, calm, conditions, laid).
  DERIVED. THE GIVEN ROWS OF THIS SEAT. 2 by the template 'for every input the law returns true; each argument reads behind the call as it read before'; 0 by the template 'total and deterministic' (their statements: YbulkclmqTotals.lean).
  GIVEN WITH THE SEED: the statements are not yours to turn. If you find one false, say at which input.
  Laid BY PROGRAM, IN A SANDBOX (cutbox-rows.mjs): the forced cells as the released guide's own fill.sh prints them over the translation 717bf1be56a9421d… (all of the seat's roots in one cut). By AI agents, Wed Nov 11 2026. No macro, syntax, notation, axiom, sorry.
-/
import Derived.Test.YbulkclmqChecked
import GoSem.Claim
import GoSem.ClaimJoined
import GoSem.ClaimMapViews
import Derived.JoinedTies
import Derived.KernelRfl
namespace Go.Proofs.Ybulkclmq
/- THE CELL 'sum', in the pinned program and in every row, IS THE sha256 OF THE DUMP (.gsa) THAT YbulkclmqProg.lean LOADS. Nothing in Lean hashes anything: it is a label: what it is worth is what the hold of that sum in a sandbox is worth. -/
noncomputable def Yba.pinned : Pinned := { name := "ybulkclmq", sum := "717bf1be56a9421d4035c9fb67327533b66b924f49e7e5c60086fccc01bf3095", checked := Yba.checked }
namespace Rows
def none {H : Type} : Left H := { results := [], args := [] }

/-- 'sim.LawS4371CWalk': WHATEVER THE INPUT: true; the input reads as it did. -/
def lawS4371CWalkSpec : ChangeSpec := { name := "lawS4371CWalk", fn := fun _ => fun
  | [d1, d2] => { results := [.lit (.bool true)], args := [d1, d2] }
  | _ => none }
def lawS4371CWalkRow : OpenClaim := { program := "ybulkclmq", sum := "717bf1be56a9421d4035c9fb67327533b66b924f49e7e5c60086fccc01bf3095", func := "example.com/stowage/stowage/sim.LawS4371CWalk", spec := "lawS4371CWalk", apart := false }
def LawS4371CWalkSaid : Prop := lawS4371CWalkRow.holds Yba.pinned (OpenSpec.ofChange lawS4371CWalkSpec)

/-- ITS FALSE NEIGHBOUR: 'it returns false'. Refute it at one input. -/
def lawS4371CWalkWrong : ChangeSpec := { name := "lawS4371CWalk", fn := fun _ => fun
  | [d1, d2] => { results := [.lit (.bool false)], args := [d1, d2] }
  | _ => none }
def LawS4371CWalkWrongFalsely : Prop := lawS4371CWalkRow.holds Yba.pinned (OpenSpec.ofChange lawS4371CWalkWrong)

/-- 'sim.LawS4371CStep': WHATEVER THE INPUT: true; the input reads as it did. -/
def lawS4371CStepSpec : ChangeSpec := { name := "lawS4371CStep", fn := fun _ => fun
  | [d1, d2, d3] => { results := [.lit (.bool true)], args := [d1, d2, d3] }
  | _ => none }
def lawS4371CStepRow : OpenClaim := { program := "ybulkclmq", sum := "717bf1be56a9421d4035c9fb67327533b66b924f49e7e5c60086fccc01bf3095", func := "example.com/stowage/stowage/sim.LawS4371CStep", spec := "lawS4371CStep", apart := false }
def LawS4371CStepSaid : Prop := lawS4371CStepRow.holds Yba.pinned (OpenSpec.ofChange lawS4371CStepSpec)

/-- ITS FALSE NEIGHBOUR: 'it returns false'. Refute it at one input. -/
def lawS4371CStepWrong : ChangeSpec := { name := "lawS4371CStep", fn := fun _ => fun
  | [d1, d2, d3] => { results := [.lit (.bool false)], args := [d1, d2, d3] }
  | _ => none }
def LawS4371CStepWrongFalsely : Prop := lawS4371CStepRow.holds Yba.pinned (OpenSpec.ofChange lawS4371CStepWrong)

end Rows
end Go.Proofs.Ybulkclmq
