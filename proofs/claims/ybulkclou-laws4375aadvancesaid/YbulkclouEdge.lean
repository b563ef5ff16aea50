import Derived.Test.YbulkclouRows
import Derived.WalkKit
import Derived.Below
namespace Go.Proofs.Ybulkclou
open Go.RowKit
set_option linter.unusedVariables false

set_option maxRecDepth 100000 in
theorem adv_edge (a0 : Option Addr) (len0 cap0 : Nat) (a1 a2 a3 : Int) (a4 : Bool) (w : World) (hl : len0 ≤ 9223372036854775807) (h : 1024 < len0) :
    Calls Yba.prog 3 #[.slice a0 len0 cap0, .int .u64 a1, .int .u8 a2, .int .u8 a3, .bool a4] w fun e w' => e = .returned (.bool true) ∧ Below w.heap.size w w' := by
  have h2 : (1024 : Int) < (len0 : Int) := by omega
  go_enter Yba.func3, Yba.ntmps3
  go_wp2
  go_ret
  exact ⟨rfl, Below.refl _ _⟩
end Go.Proofs.Ybulkclou
