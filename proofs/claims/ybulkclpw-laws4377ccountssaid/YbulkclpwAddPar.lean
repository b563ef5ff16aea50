import Derived.Test.YbulkclpwRows
import Derived.Test.YbulkclpwLocks
import Derived.Conc.MuLone
import Derived.Conc.SmallLaws
import Derived.WalkKit
namespace Go.Proofs.Ybulkclpw.addPar
open Go.MuLone

theorem equalIn_chan (w : World) (d : Nat) (r s : Option Nat) : (Op.equalIn (d + 1) 32 (.chan r) (.chan s)).run Yba.prog w = .ok (r == s) w := by
  simp [Op.equalIn, run_underlying Yba.underlying32]
theorem eql_chan (w : World) (r s : Option Nat) : (binOp .eql 32 (.chan r) (.chan s)).run Yba.prog w = .ok (.bool (r == s)) w := by
  simp only [binOp]
  simp [Op.equal, Op.maxDepth, equalIn_chan w 9999]
theorem neq_chan (w : World) (r s : Option Nat) : (binOp .neq 32 (.chan r) (.chan s)).run Yba.prog w = .ok (.bool (!(r == s))) w := by
  simp only [binOp]
  simp [Op.equal, Op.maxDepth, equalIn_chan w 9999]

theorem info40 : (Yba.prog.info? 40).map (fun i => decide (i.bytes = 0)) = some true := by kernel_rfl

theorem make_chan (w : World) : (Instr.makeChan 32 (.int .i64 0)).run Yba.prog w = .ok (.chan (some w.heap.size)) (w.alloc (.chan 0 #[] false 0 0 false)) := by
  obtain ⟨i, hi, hb⟩ := Option.map_eq_some_iff.1 info40
  exact Go.Conc.run_makeChan Yba.underlying32 hi .i64 0 (by decide) (by simp)

set_option maxRecDepth 100000 in
theorem addSome (b c : Nat) (n : Int) (w : World)
    (h10 : w.cell? ⟨b, 10, none⟩ = some (.int .i32 0)) (h25 : w.cell? ⟨b, 25, none⟩ = some (.int .i32 n)) (h29 : w.cell? ⟨b, 29, none⟩ = some (.chan (some c)))
    (f10 : w.frozen? ⟨b, 10, none⟩ = false) (f25 : w.frozen? ⟨b, 25, none⟩ = false) :
    Calls Yba.prog 6 #[.pointer (some ⟨b, 0, none⟩)] w fun e w' => e = .returned (.chan (some c)) ∧
      w' = ((w.setCell ⟨b, 10, none⟩ (.int .i32 1)).setCell ⟨b, 25, none⟩ (.int .i32 (RowKit.wrap32 (n + 1)))).setCell ⟨b, 10, none⟩ (.int .i32 0) := by
  have q := eql_chan
  go_enter_defers Yba.func6, Yba.ntmps6
  go_wp2_with (go_at_call 9; refine (lock_free Yba.muLib ⟨b, 10, none⟩ _ h10 f10).mono ?_; rintro e w' ⟨rfl, rfl⟩)
  refine leaves_cons (f := 8) (args := #[.pointer (some ⟨b, 10, none⟩)]) (by simp) (by simp [go_sem]) ?_
  refine (unlock_deferred Yba.muLib ⟨b, 10, none⟩ .returning _ ?_ ?_).mono ?_
  · exact (World.cell?_setCell_other _ ⟨b, 25, none⟩ ⟨b, 10, none⟩ _ (by simp)).trans (World.cell?_setCell_same w ⟨b, 10, none⟩ (.int .i32 1) h10)
  · simp [f10]
  rintro e u' w'' ⟨rfl, rfl, rfl⟩
  exact ⟨_, results_tmp rfl _ _ _, rfl, rfl⟩

set_option maxRecDepth 100000 in
theorem addNone (b : Nat) (n : Int) (w : World) (hb : b < w.heap.size)
    (h10 : w.cell? ⟨b, 10, none⟩ = some (.int .i32 0)) (h25 : w.cell? ⟨b, 25, none⟩ = some (.int .i32 n)) (h29 : w.cell? ⟨b, 29, none⟩ = some (.chan none))
    (f10 : w.frozen? ⟨b, 10, none⟩ = false) (f25 : w.frozen? ⟨b, 25, none⟩ = false) (f29 : w.frozen? ⟨b, 29, none⟩ = false) :
    Calls Yba.prog 6 #[.pointer (some ⟨b, 0, none⟩)] w fun e w' => e = .returned (.chan (some w.heap.size)) ∧
      w' = ((((w.setCell ⟨b, 10, none⟩ (.int .i32 1)).setCell ⟨b, 29, none⟩ (.chan (some w.heap.size))).setCell ⟨b, 25, none⟩ (.int .i32 (RowKit.wrap32 (n + 1)))).alloc (.chan 0 #[] false 0 0 false)).setCell ⟨b, 10, none⟩ (.int .i32 0) := by
  have q := eql_chan
  have q2 := make_chan
  go_enter_defers Yba.func6, Yba.ntmps6
  go_wp2_with (go_at_call 9; refine (lock_free Yba.muLib ⟨b, 10, none⟩ _ h10 f10).mono ?_; rintro e w' ⟨rfl, rfl⟩)
  refine leaves_cons (f := 8) (args := #[.pointer (some ⟨b, 10, none⟩)]) (by simp) (by simp [go_sem]) ?_
  refine (unlock_deferred Yba.muLib ⟨b, 10, none⟩ .returning _ ?_ ?_).mono ?_
  · rw [World.cell?_alloc_past _ _ _ (by simpa using hb)]
    exact (World.cell?_setCell_other _ ⟨b, 25, none⟩ ⟨b, 10, none⟩ _ (by simp)).trans ((World.cell?_setCell_other _ ⟨b, 29, none⟩ ⟨b, 10, none⟩ _ (by simp)).trans (World.cell?_setCell_same w ⟨b, 10, none⟩ (.int .i32 1) h10))
  · rw [World.frozen?_alloc_past _ _ _ (by simpa using hb)]; simp [f10]
  rintro e u' w'' ⟨rfl, rfl, rfl⟩
  exact ⟨_, results_tmp rfl _ _ _, rfl, rfl⟩
end Go.Proofs.Ybulkclpw.addPar
