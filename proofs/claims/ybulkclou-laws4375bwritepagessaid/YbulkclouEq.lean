import Derived.Test.YbulkclouRows
import Derived.Test.YbulkclouParts
import Derived.Test.YbulkclouNext
import Derived.Laws.BytesArg
namespace Go.Proofs.Ybulkclou
open Go.RowKit
set_option linter.unusedVariables false

theorem beq (v1 v2 : Value) (s1 s2 : ByteArray) (w : World) (h1 : (convert 33 9 v1).run Yba.prog w = .ok (.string s1) w) (h2 : (convert 33 9 v2).run Yba.prog w = .ok (.string s2) w) :
    Calls Yba.prog 7 #[v1, v2] w fun e w' => e = .returned (.bool (s1.toList == s2.toList)) ∧ w' = w := by
  go_enter Yba.func7, Yba.ntmps7
  go_wp2
  go_ret
  exact ⟨rfl, rfl⟩

/-- A byte slice that reads as the string s. -/
def Reads (w : World) (v : Value) (s : ByteArray) : Prop := (convert 33 9 v).run Yba.prog w = .ok (.string s) w

theorem reads_nil (w : World) : Reads w nilS ByteArray.empty := run_convert_bytes_nil w 33 5 Yba.underlying33 Yba.underlying5 0 0 9 Yba.underlying9

theorem reads_row (w : World) (g m cap : Nat) (xs : List Int) (hm : xs.length = m) (h : w.heap[g]? = some (.cells (xs.map (Value.int .u8)).toArray 5 (0, 0))) : Reads w (.slice (some ⟨g, 0, none⟩) m cap) (strOfNums xs) := by
  refine run_convert_bytes_arg w 33 5 Yba.underlying33 Yba.underlying5 g 0 m cap xs hm (fun i hi => ?_) 9 Yba.underlying9
  rw [cell_of_row w g (0 + i) _ _ _ h]
  have : i < xs.length := by omega
  simp [this]

theorem beq_same (v : Value) (s : ByteArray) (w : World) (h : Reads w v s) : Calls Yba.prog 7 #[v, v] w fun e w' => e = .returned (.bool true) ∧ w' = w := by
  refine (beq v v s s w h h).mono ?_
  rintro e w' ⟨rfl, rfl⟩
  exact ⟨by simp, rfl⟩

set_option maxHeartbeats 400000 in
theorem zeq (x0 x2 : Value) (l : Int) (s0 s2 : ByteArray) (w : World) (y0 : ∃ a n k, x0 = .slice a n k) (y2 : ∃ a n k, x2 = .slice a n k) (h0 : ∀ w', Below w.heap.size w w' → Reads w' x0 s0) (h2 : ∀ w', Below w.heap.size w w' → Reads w' x2 s2) :
    Calls Yba.prog 6 #[.agg #[x0, .int .i64 l, x2], .agg #[x0, .int .i64 l, x2]] w fun e w' => e = .returned (.bool true) ∧ Below w.heap.size w w' := by
  obtain ⟨a0, n0, k0, rfl⟩ := y0
  obtain ⟨a2, n2, k2, rfl⟩ := y2
  have Hb : ∀ o o', Below w.heap.size w ((w.alloc o).alloc o') := fun o o' => (((Below.refl _ w).alloc (Nat.le_refl _) _).alloc (by simp) _)
  go_enter Yba.func6, Yba.ntmps6
  go_wp2_with fail
  refine (beq_same _ s0 _ (h0 _ (by exact Hb _ _))).mono ?_
  rintro e w' ⟨rfl, rfl⟩
  go_wp2_with fail
  refine (beq_same _ s2 _ (h2 _ (by exact Hb _ _))).mono ?_
  rintro e w' ⟨rfl, rfl⟩
  go_wp2
  go_ret
  exact ⟨rfl, Hb _ _⟩
end Go.Proofs.Ybulkclou
