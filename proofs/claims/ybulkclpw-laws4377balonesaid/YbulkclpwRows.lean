/-
  No cell of these rows narrows 'for every input' (looked for: loops, veiled, ifaces, maps, wideKeys, modest, calm, conditions, laid).
  DERIVED. THE GIVEN ROWS OF THIS SEAT. 2 by the template 'for every input the law returns true; each argument reads behind the call as it read before'; 0 by the template 'total and deterministic' (their statements: YbulkclpwTotals.lean).
  GIVEN WITH THE SEED: the statements are not yours to turn. If you find one false, say at which input.
  Laid BY PROGRAM, IN A SANDBOX (cutbox-rows.mjs): the forced cells as the released guide's own fill.sh prints them over the translation eaa23393dd25d490… (all of the seat's roots in one cut). By AI agents, Wed Nov 11 2026. No macro, syntax, notation, axiom, sorry.
-/
import Derived.Test.YbulkclpwChecked
import GoSem.Claim
import GoSem.ClaimJoined
import GoSem.ClaimMapViews
import Derived.JoinedTies
import Derived.KernelRfl
namespace Go.Proofs.Ybulkclpw
/- THE CELL 'sum', in the pinned program and in every row, IS THE sha256 OF THE DUMP (.gsa) THAT YbulkclpwProg.lean LOADS. Nothing in Lean hashes anything: it is a label: what it is worth is what the hold of that sum in a sandbox is worth. -/
noncomputable def Yba.pinned : Pinned := { name := "ybulkclpw", sum := "eaa23393dd25d4908baa75f6c9382032b93e302613be18d4653342cfef6c3c4a", checked := Yba.checked }
namespace Rows
def none {H : Type} : Left H := { results := [], args := [] }

/-- 'fixture.LawS4377BAlone': WHATEVER THE INPUT: true; the input reads as it did. -/
def lawS4377BAloneSpec : ChangeSpec := { name := "lawS4377BAlone", fn := fun _ => fun
  | [d1, d2] => { results := [.lit (.bool true)], args := [d1, d2] }
  | _ => none }
def lawS4377BAloneRow : OpenClaim := { program := "ybulkclpw", sum := "eaa23393dd25d4908baa75f6c9382032b93e302613be18d4653342cfef6c3c4a", func := "example.com/fixture/fixture.LawS4377BAlone", spec := "lawS4377BAlone", apart := false }
def LawS4377BAloneSaid : Prop := lawS4377BAloneRow.holds Yba.pinned (OpenSpec.ofChange lawS4377BAloneSpec)

/-- ITS FALSE NEIGHBOUR: 'it returns false'. Refute it at one input. -/
def lawS4377BAloneWrong : ChangeSpec := { name := "lawS4377BAlone", fn := fun _ => fun
  | [d1, d2] => { results := [.lit (.bool false)], args := [d1, d2] }
  | _ => none }
def LawS4377BAloneWrongFalsely : Prop := lawS4377BAloneRow.holds Yba.pinned (OpenSpec.ofChange lawS4377BAloneWrong)

/-- 'fixture.LawS4377CCounts': WHATEVER THE INPUT: true; the input reads as it did. -/
def lawS4377CCountsSpec : ChangeSpec := { name := "lawS4377CCounts", fn := fun _ => fun
  | [d1, d2, d3, d4, d5] => { results := [.lit (.bool true)], args := [d1, d2, d3, d4, d5] }
  | _ => none }
def lawS4377CCountsRow : OpenClaim := { program := "ybulkclpw", sum := "eaa23393dd25d4908baa75f6c9382032b93e302613be18d4653342cfef6c3c4a", func := "example.com/fixture/fixture.LawS4377CCounts", spec := "lawS4377CCounts", inPlace := ["(*internal/sync.Mutex).Lock", "internal/race.Disable", "sync/atomic.CompareAndSwapInt32", "internal/race.Enable", "internal/race.Acquire", "(*internal/sync.Mutex).lockSlow", "internal/sync.runtime_canSpin", "internal/sync.runtime_doSpin", "internal/sync.throw", "internal/sync.runtime_nanotime", "internal/sync.runtime_SemacquireMutex", "sync/atomic.AddInt32", "(*internal/sync.Mutex).Unlock", "internal/race.ReleaseMerge", "(*internal/sync.Mutex).unlockSlow", "internal/sync.fatal", "internal/sync.runtime_Semrelease", "(*internal/sync.Mutex).TryLock"], apart := false }
def LawS4377CCountsSaid : Prop := lawS4377CCountsRow.holds Yba.pinned (OpenSpec.ofChange lawS4377CCountsSpec)

/-- ITS FALSE NEIGHBOUR: 'it returns false'. Refute it at one input. -/
def lawS4377CCountsWrong : ChangeSpec := { name := "lawS4377CCounts", fn := fun _ => fun
  | [d1, d2, d3, d4, d5] => { results := [.lit (.bool false)], args := [d1, d2, d3, d4, d5] }
  | _ => none }
def LawS4377CCountsWrongFalsely : Prop := lawS4377CCountsRow.holds Yba.pinned (OpenSpec.ofChange lawS4377CCountsWrong)

end Rows
end Go.Proofs.Ybulkclpw
