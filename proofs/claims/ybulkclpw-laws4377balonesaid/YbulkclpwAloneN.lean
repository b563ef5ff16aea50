import Derived.Test.YbulkclpwAloneT
namespace Go.Proofs.Ybulkclpw
open Go.RowKit
open Go.ChangeMaps (setBlock)
set_option linter.unusedVariables false

theorem nil22 (w : World) : (w.alloc (.cells z56 56)).cell? ⟨w.heap.size, 22, none⟩ = some (.map none) := by
  rw [World.cell?_alloc_at _ _ _ _ rfl]
  exact z56_22

theorem nil22' (w : World) : ((w.alloc (.cells z56 56)).alloc (.cells (madeCells #[Value.pointer none] 0) 48)).cell? ⟨w.heap.size, 22, none⟩ = some (.map none) := by
  rw [World.cell?_alloc_past _ _ _ (by show w.heap.size < (Array.push _ _).size; simp)]
  exact nil22 w

theorem nil_below (w : World) : Below w.heap.size w ((w.alloc (.cells z56 56)).alloc (.cells (madeCells #[Value.pointer none] 0) 48)) :=
  ((Below.refl _ _).alloc (Nat.le_refl _) _).alloc (by show w.heap.size ≤ (Array.push _ _).size; simp) _

theorem len_nil (w : World) : (Builtin.len_ #[47] 3 #[.map none]).run Yba.prog w = .ok (.int .i64 0) w := by
  simp [Builtin.len_, run_underlying Yba.underlying47, goInt]

set_option maxRecDepth 100000 in
set_option maxHeartbeats 1000000 in
/-- No name, and the set is nil. -/
theorem alone_nil (a : Option Addr) (cap : Nat) (w : World) :
    Calls Yba.prog 3 #[.slice a 0 cap, .bool true] w fun e w' => e = .returned (.bool true) ∧ Below w.heap.size w w' := by
  have q := zero56
  have q3 := z56_size
  have q4 := z56_22
  have q5 := eql_map
  have q6 := len_nil
  have hmm := @run_makeMap Yba.prog
  have hmk := run_make_row' (P := Yba.prog) 57 48 (.pointer none) 8 Yba.underlying57 info48 rfl .i64 .i64 0 (by omega) (by omega)
  simp only [Int.natCast_zero] at hmk
  go_enter Yba.func3, Yba.ntmps3
  go_wp2
  go_loopw [39] (fun iv wr => iv = .int .i64 0 ∧ wr = (w.alloc (.cells z56 56)).alloc (.cells (madeCells #[Value.pointer none] 0) 48)) (fun _ _ => 0)
  case atStart => exact ⟨rfl, rfl⟩
  case round =>
    obtain ⟨rfl, rfl⟩ := hrel
    go_wp2_with (go_at_call 5; go_must (refine (running_nil w.heap.size _ (by exact nil22' w)).mono ?_; rintro e w1 ⟨rfl, hw⟩; obtain rfl := hw.symm; have c1 := nil22' w))
    go_loopw [87] (fun iv wr => iv = .int .i64 0 ∧ wr = (w.alloc (.cells z56 56)).alloc (.cells (madeCells #[Value.pointer none] 0) 48)) (fun _ _ => 0)
    case atStart => exact ⟨rfl, rfl⟩
    case round =>
      obtain ⟨rfl, rfl⟩ := hrel
      go_wp2
      go_ret
      exact ⟨rfl, nil_below w⟩
end Go.Proofs.Ybulkclpw
