import Derived.Test.YbulkclmqRows
import Derived.WalkKit
import Derived.WalkSmall
import Derived.WalkLawsBesides
import Derived.Deep.QuietTactic
import Derived.BigQuiet
namespace Go.Proofs.Ybulkclmq
open Go.RowKit
set_option linter.unusedVariables false

set_option maxHeartbeats 400000 in
theorem next_in (X g n cap b r m c : Nat) (a : Option Addr) (w : World) (hX : X < w.heap.size) (hg : g < w.heap.size)
    (hx : w.cell? ⟨X, 1, none⟩ = some (.slice (some ⟨g, 0, none⟩) n cap)) (hb : w.cell? ⟨g, b * 2, none⟩ = some (.slice a m c))
    (hbn : b < n) (hbb : b ≤ 100000) (hr : r ≤ 100000) (hnc : n ≤ 100000) (hm : m ≤ 100000) (hlt : r + 1 < m) :
    Calls Yba.prog 6 #[.pointer (some ⟨X, 0, none⟩), .agg #[.int .i64 b, .int .i64 r]] w fun e w' => e = .returned (.agg #[.int .i64 b, .int .i64 (r + 1)]) ∧ Below w.heap.size w w' := by
  go_enter Yba.func6, Yba.ntmps6
  go_wp2
  go_quiet (fail)
  go_wp2
  exact bodyPost_ret (v := .agg #[.int .i64 b, .int .i64 (r + 1)]) (by simp [results, Yba.results6, go_sem]) rfl
    ⟨rfl, ((below_drewN (((Below.refl _ _).alloc (Nat.le_refl _) _).alloc (by simp) _) nq).setCell (by simp) _).setCell (by simp) _⟩

set_option maxHeartbeats 400000 in
theorem next_out (X g n cap b r m c : Nat) (a : Option Addr) (w : World) (hX : X < w.heap.size) (hg : g < w.heap.size)
    (hx : w.cell? ⟨X, 1, none⟩ = some (.slice (some ⟨g, 0, none⟩) n cap)) (hb : w.cell? ⟨g, b * 2, none⟩ = some (.slice a m c))
    (hbn : b < n) (hbb : b ≤ 100000) (hr : r ≤ 100000) (hnc : n ≤ 100000) (hm : m ≤ 100000) (hlt : ¬ r + 1 < m) :
    Calls Yba.prog 6 #[.pointer (some ⟨X, 0, none⟩), .agg #[.int .i64 b, .int .i64 r]] w fun e w' => e = .returned (.agg #[.int .i64 (b + 1), .int .i64 0]) ∧ Below w.heap.size w w' := by
  go_enter Yba.func6, Yba.ntmps6
  go_wp2
  go_quiet (fail)
  go_wp2
  exact bodyPost_ret (v := .agg #[.int .i64 (b + 1), .int .i64 0]) (by simp [results, Yba.results6, go_sem]) rfl
    ⟨rfl, ((below_drewN (((Below.refl _ _).alloc (Nat.le_refl _) _).alloc (by simp) _) nq).setCell (by simp) _).setCell (by simp) _⟩
theorem nextI_in (bI rI : Int) (X g n cap b r m c : Nat) (a : Option Addr) (w : World) (eb : bI = b) (er : rI = r) (hX : X < w.heap.size) (hg : g < w.heap.size)
    (hx : w.cell? ⟨X, 1, none⟩ = some (.slice (some ⟨g, 0, none⟩) n cap)) (hb : w.cell? ⟨g, b * 2, none⟩ = some (.slice a m c))
    (hbn : b < n) (hbb : b ≤ 100000) (hr : r ≤ 100000) (hnc : n ≤ 100000) (hm : m ≤ 100000) (hlt : r + 1 < m) :
    Calls Yba.prog 6 #[.pointer (some ⟨X, 0, none⟩), .agg #[.int .i64 bI, .int .i64 rI]] w fun e w' => e = .returned (.agg #[.int .i64 bI, .int .i64 (rI + 1)]) ∧ Below w.heap.size w w' := by
  subst eb; subst er; exact next_in X g n cap b r m c a w hX hg hx hb hbn hbb hr hnc hm hlt

theorem nextI_out (bI rI : Int) (X g n cap b r m c : Nat) (a : Option Addr) (w : World) (eb : bI = b) (er : rI = r) (hX : X < w.heap.size) (hg : g < w.heap.size)
    (hx : w.cell? ⟨X, 1, none⟩ = some (.slice (some ⟨g, 0, none⟩) n cap)) (hb : w.cell? ⟨g, b * 2, none⟩ = some (.slice a m c))
    (hbn : b < n) (hbb : b ≤ 100000) (hr : r ≤ 100000) (hnc : n ≤ 100000) (hm : m ≤ 100000) (hlt : ¬ r + 1 < m) :
    Calls Yba.prog 6 #[.pointer (some ⟨X, 0, none⟩), .agg #[.int .i64 bI, .int .i64 rI]] w fun e w' => e = .returned (.agg #[.int .i64 (bI + 1), .int .i64 0]) ∧ Below w.heap.size w w' := by
  subst eb; subst er; exact next_out X g n cap b r m c a w hX hg hx hb hbn hbb hr hnc hm hlt
end Go.Proofs.Ybulkclmq
