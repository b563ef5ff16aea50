/-
  No cell of these rows narrows 'for every input' (looked for: loops, veiled, ifaces, maps, wideKeys, modest, calm, conditions, laid).
  DERIVED. THE GIVEN ROWS OF THIS SEAT. 2 by the template 'for every input the law returns true; each argument reads behind the call as it read before'; 0 by the template 'total and deterministic' (their statements: YbulkclpiTotals.lean).
  GIVEN WITH THE SEED: the statements are not yours to turn. If you find one false, say at which input.
  Laid BY PROGRAM, IN A SANDBOX (cutbox-rows.mjs): the forced cells as the released guide's own fill.sh prints them over the translation 20df7fa07423d530… (all of the seat's roots in one cut). By AI agents, Wed Nov 11 2026. No macro, syntax, notation, axiom, sorry.
-/
import Derived.Test.YbulkclpiChecked
import GoSem.Claim
import GoSem.ClaimJoined
import GoSem.ClaimMapViews
import Derived.JoinedTies
import Derived.KernelRfl
namespace Go.Proofs.Ybulkclpi
/- THE CELL 'sum', in the pinned program and in every row, IS THE sha256 OF THE DUMP (.gsa) THAT YbulkclpiProg.lean LOADS. Nothing in Lean hashes anything: it is a label: what it is worth is what the hold of that sum in a sandbox is worth. -/
noncomputable def Yba.pinned : Pinned := { name := "ybulkclpi", sum := "20df7fa07423d5300802344d1d9f9a4e363cf4539fe351ccfa68cf0d4c0973ee", checked := Yba.checked }
namespace Rows
def none {H : Type} : Left H := { results := [], args := [] }

/-- 'store.LawS4376AExact': WHATEVER THE INPUT: true; the input reads as it did. -/
def lawS4376AExactSpec : ChangeSpec := { name := "lawS4376AExact", fn := fun _ => fun
  | [d1, d2, d3, d4] => { results := [.lit (.bool true)], args := [d1, d2, d3, d4] }
  | _ => none }
def lawS4376AExactRow : OpenClaim := { program := "ybulkclpi", sum := "20df7fa07423d5300802344d1d9f9a4e363cf4539fe351ccfa68cf0d4c0973ee", func := "example.com/trailseal/trailseal/internal/store.LawS4376AExact", spec := "lawS4376AExact", unfollowed := true, recurses := true, apart := false }
def LawS4376AExactSaid : Prop := lawS4376AExactRow.holds Yba.pinned (OpenSpec.ofChange lawS4376AExactSpec)

/-- ITS FALSE NEIGHBOUR: 'it returns false'. Refute it at one input. -/
def lawS4376AExactWrong : ChangeSpec := { name := "lawS4376AExact", fn := fun _ => fun
  | [d1, d2, d3, d4] => { results := [.lit (.bool false)], args := [d1, d2, d3, d4] }
  | _ => none }
def LawS4376AExactWrongFalsely : Prop := lawS4376AExactRow.holds Yba.pinned (OpenSpec.ofChange lawS4376AExactWrong)

/-- 'store.LawS4376AMinimal': WHATEVER THE INPUT: true; the input reads as it did. -/
def lawS4376AMinimalSpec : ChangeSpec := { name := "lawS4376AMinimal", fn := fun _ => fun
  | [d1, d2, d3, d4] => { results := [.lit (.bool true)], args := [d1, d2, d3, d4] }
  | _ => none }
def lawS4376AMinimalRow : OpenClaim := { program := "ybulkclpi", sum := "20df7fa07423d5300802344d1d9f9a4e363cf4539fe351ccfa68cf0d4c0973ee", func := "example.com/trailseal/trailseal/internal/store.LawS4376AMinimal", spec := "lawS4376AMinimal", unfollowed := true, recurses := true, apart := false }
def LawS4376AMinimalSaid : Prop := lawS4376AMinimalRow.holds Yba.pinned (OpenSpec.ofChange lawS4376AMinimalSpec)

/-- ITS FALSE NEIGHBOUR: 'it returns false'. Refute it at one input. -/
def lawS4376AMinimalWrong : ChangeSpec := { name := "lawS4376AMinimal", fn := fun _ => fun
  | [d1, d2, d3, d4] => { results := [.lit (.bool false)], args := [d1, d2, d3, d4] }
  | _ => none }
def LawS4376AMinimalWrongFalsely : Prop := lawS4376AMinimalRow.holds Yba.pinned (OpenSpec.ofChange lawS4376AMinimalWrong)

end Rows
end Go.Proofs.Ybulkclpi
