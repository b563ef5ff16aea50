import Derived.Test.YbulkclpwRows
import Derived.Test.YbulkclpwLocks
import Derived.Conc.MuLone
import Derived.Conc.SmallLaws
import Derived.WalkKit
namespace Go.Proofs.Ybulkclpw.tryLock
open Go.MuLone

set_option maxRecDepth 100000 in
theorem itry (a : Addr) (w : World) (hc : w.cell? a = some (.int .i32 0)) (hz : w.frozen? a = false) :
    Calls Yba.prog 10 #[.pointer (some a)] w fun e w' => e = .returned (.bool true) ∧ w' = w.setCell a (.int .i32 1) := by
  have hd : ∀ w, (callFunc 13 #[]).run Yba.prog w = _ := disable Yba.muLib
  have he : ∀ w, (callFunc 14 #[]).run Yba.prog w = _ := enable Yba.muLib
  have ha : ∀ a w, (callFunc 16 #[.pointer (some a)]).run Yba.prog w = _ := acquire Yba.muLib
  have hcas := run_call_cas_hit (P := Yba.prog) Yba.muLib.f_cas32 (by kernel_rfl) (by kernel_rfl) (by kernel_rfl) .i32 (by kernel_rfl) (y := 1) hc hz
  have hc' : (w.setCell a (.int .i32 1)).cell? a = some (.int .i32 1) := by simp [go_sem, hc]
  have hcv := run_convert_to_unsafe (P := Yba.prog) (src := 74) (dst := 78) Yba.underlying74 Yba.underlying78 Yba.muLib.room_tIMutex hc'
  go_enter Yba.func10, Yba.ntmps10
  go_wp2
  go_ret
  exact ⟨rfl, rfl⟩

set_option maxRecDepth 100000 in
theorem try7 (a : Addr) (w : World) (hc : w.cell? a = some (.int .i32 0)) (hz : w.frozen? a = false) :
    Calls Yba.prog 7 #[.pointer (some a)] w fun e w' => e = .returned (.bool true) ∧ w' = w.setCell a (.int .i32 1) := by
  go_enter Yba.func7, Yba.ntmps7
  go_wp2_with (go_at_call 10; refine (itry a _ hc hz).mono ?_; rintro e w' ⟨rfl, rfl⟩)
  go_ret
  exact ⟨rfl, rfl⟩
end Go.Proofs.Ybulkclpw.tryLock
