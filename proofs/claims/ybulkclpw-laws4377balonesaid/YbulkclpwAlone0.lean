import Derived.Test.YbulkclpwPMap
import Derived.Maps.RangeRun
import Derived.WalkKit
import Derived.WalkSmall
import Derived.WalkLawsBesides
import Derived.WalkSpells
import Derived.Deep.QuietTactic
import Derived.BigQuiet
import Derived.Deep.DeepMust
namespace Go.Proofs.Ybulkclpw
open Go.RowKit
set_option linter.unusedVariables false

/-- The zero runner's cells. -/
noncomputable def z56 : Array Value := match Yba.prog.info? 56 with | some i => (match i.zero with | some (.agg c) => c | _ => #[]) | none => #[]
theorem z56_size : z56.size = 73 := by kernel_rfl
theorem z56_22 : z56[22]? = some (.map none) := by kernel_rfl
theorem zero56 (w : World) : (zeroValue 56).run Yba.prog w = .ok (.agg z56) w := by kernel_rfl

theorem alone_long (a : Option Addr) (n cap : Nat) (nb : Bool) (w : World) (hn : 1024 < n) :
    Calls Yba.prog 3 #[.slice a n cap, .bool nb] w fun e w' => e = .returned (.bool true) ∧ Below w.heap.size w w' := by
  have h1 : (1024 : Int) < (n : Int) := by omega
  go_enter Yba.func3, Yba.ntmps3
  go_wp2
  go_ret
  exact ⟨rfl, Below.refl _ _⟩

/-- runningAlone at a nil map. -/
theorem running_nil (b : Nat) (w : World) (h : w.cell? ⟨b, 22, none⟩ = some (.map none)) :
    Calls Yba.prog 5 #[.pointer (some ⟨b, 0, none⟩)] w fun e w' => e = .returned (.string { data := #[] }) ∧ w' = w := by
  go_enter Yba.func5, Yba.ntmps5
  go_wp2
  go_ret
  exact ⟨rfl, rfl⟩

theorem set_same (w : World) (b : Nat) (o : Obj) (h : b < w.heap.size) : (ChangeMaps.setBlock w b o).heap[b]? = some o := by
  simp [ChangeMaps.setBlock, h]
theorem set_other (w : World) (b : Nat) (o : Obj) (k : Nat) (h : k ≠ b) : (ChangeMaps.setBlock w b o).heap[k]? = w.heap[k]? := by
  simp [ChangeMaps.setBlock, Ne.symm h]

theorem len_map (w : World) (M n : Nat) (es : Array MapEntry) (hM : w.heap[M]? = some (.map es n)) : (Builtin.len_ #[47] 3 #[.map (some M)]).run Yba.prog w = .ok (.int .i64 es.size) w := by
  simp [Builtin.len_, run_underlying Yba.underlying47, MapKept.run_getObj_map hM, goInt]

set_option maxRecDepth 100000 in
/-- runningAlone at a set of other than one test. -/
theorem running_other (b M n : Nat) (es : Array MapEntry) (w : World) (h : w.cell? ⟨b, 22, none⟩ = some (.map (some M))) (hM : w.heap[M]? = some (.map es n)) (hn : es.size ≠ 1) :
    Calls Yba.prog 5 #[.pointer (some ⟨b, 0, none⟩)] w fun e w' => e = .returned (.string { data := #[] }) ∧ w' = w := by
  have hne : ¬ (es.size : Int) = 1 := by omega
  have hl := len_map w M n es hM
  go_enter Yba.func5, Yba.ntmps5
  go_wp2
  go_ret
  exact ⟨rfl, rfl⟩

set_option maxRecDepth 100000 in
/-- runningAlone at a set of one test. -/
theorem running_one (b M B : Nat) (nm : ByteArray) (w : World) (h : w.cell? ⟨b, 22, none⟩ = some (.map (some M))) (hM : w.heap[M]? = some (.map #[ent B 0] 1))
    (hc : w.cell? ⟨B, 2, none⟩ = some (.string nm)) (hB : B < w.heap.size) :
    Calls Yba.prog 5 #[.pointer (some ⟨b, 0, none⟩)] w fun e w' => e = .returned (.string nm) ∧ Below w.heap.size w w' := by
  have hr := run_range_map w 47 48 40 M _ _ Yba.underlying47 hM
  have hMl : M < w.heap.size := (Array.getElem?_eq_some_iff.1 hM).1
  obtain ⟨w2, hnx, hb2, hi2⟩ : ∃ w2 : World, (∀ ty, (Instr.next (.pointer (some ⟨w.heap.size, 0, none⟩)) false ty).run Yba.prog (w.alloc (.mapIter (some M) 1 #[] 1)) = .ok (.tuple #[.bool true, .pointer (some ⟨B, 0, none⟩), .agg #[]]) w2) ∧ Below w.heap.size w w2 ∧ w2.heap[w.heap.size]? = some (.mapIter (some M) 1 #[0] 1) := by
    have hI : (w.alloc (.mapIter (some M) 1 #[] 1)).heap[w.heap.size]? = some (.mapIter (some M) 1 #[] 1) := heap_alloc_new _ _
    have hb0 : Below w.heap.size w (w.alloc (.mapIter (some M) 1 #[] 1)) := (Below.refl _ _).alloc (Nat.le_refl _) _
    have hM' : (w.alloc (.mapIter (some M) 1 #[] 1)).heap[M]? = some (.map #[ent B 0] 1) := (hb0.block M hMl).trans hM
    rcases run_next_at (P := Yba.prog) (w.alloc (.mapIter (some M) 1 #[] 1)) 0 w.heap.size M 1 1 #[] #[ent B 0] 1 hI hM' (by simp [ent]) (Nat.le_refl _) with ⟨h0, _⟩ | ⟨e, he, w1, hw1, hrun⟩
    · simp [leftOf] at h0
    · obtain rfl : e = ent B 0 := by simpa [leftOf] using he
      have hb1 : Below w.heap.size w w1 := by rcases hw1 with rfl | rfl; exact hb0; exact hb0.drew
      have hs1 : w.heap.size < w1.heap.size := by
        have : w.heap.size < (w.alloc (.mapIter (some M) 1 #[] 1)).heap.size := by show w.heap.size < (w.heap.push _).size; simp
        rcases hw1 with rfl | rfl <;> exact this
      refine ⟨_, fun ty => hrun, ⟨hb1.os, hb1.tape, hb1.output, ?_, fun k hk => (set_other _ _ _ _ (by omega)).trans (hb1.block k hk)⟩, set_same _ _ _ hs1⟩
      have := hb1.size
      simp [ChangeMaps.setBlock]
      omega
  have hl := len_map w M 1 _ hM
  have hM2 : w2.heap[M]? = some (.map #[ent B 0] 1) := (hb2.block M hMl).trans hM
  have hen := run_entry_at (P := Yba.prog) w2 w.heap.size M 1 #[] #[ent B 0] 1 (ent B 0) hi2 hM2 (by simp) (by simp)
  have hc2 : w2.cell? ⟨B, 2, none⟩ = some (.string nm) := (hb2.cell (by exact hB)).trans hc
  have HB : Hid (Below w.heap.size w w2) := hb2
  clear hb2 hi2 hM2
  simp only [ent, ptr, Nat.add_zero] at hen
  go_enter Yba.func5, Yba.ntmps5
  go_wp2
  go_loopw [3] (fun _ wr => wr = w.alloc (.mapIter (some M) 1 #[] 1)) (fun _ _ => 0)
  case atStart => rfl
  case round =>
    subst hrel
    go_wp2
    go_ret
    exact ⟨rfl, HB.out⟩
end Go.Proofs.Ybulkclpw
