import Derived.Test.YbulkclpwAlone0
import Derived.Deep.OwnRows
namespace Go.Proofs.Ybulkclpw
open Go.RowKit
open Go.ChangeMaps (setBlock)
set_option linter.unusedVariables false

theorem info48 : (Yba.prog.info? 48).map (fun i => (i.zero, i.size, i.bytes)) = some (some (.pointer none), 1, 8) := by kernel_rfl

/-- 'r.running[c] = struct{}{}' at the operation. -/
theorem wpList_store_ptr (w : World) {ops : Array Oper} {rest : List Oper} {o : Oper} {a : Act} {Q : Exit → Act → World → Prop}
    (hg : o.guard = none) (m x v : Operand) (hop : o.op = Op.mapUpdate 47 m x v) (M B n : Nat) (key : Value)
    (hm : a.eval m = .map (some M)) (hx : a.eval x = key) (hv : a.eval v = .agg #[]) (hkey : key = ptr B n)
    (hM : w.heap[M]? = some (.map (ents B n).toArray n)) (hL : Laid w B (n + 1))
    (hK : wpList Yba.prog ops Q rest (a.put o.dst undef) (setBlock w M (.map (ents B (n + 1)).toArray (n + 1)))) :
    wpList Yba.prog ops Q (o :: rest) a w := by
  subst hkey
  refine wpList_plain hg fun K' hK' => ?_
  unfold Oper.wp
  simp [execOp, hop, hm, hx, hv, store_ptr w M B n hM hL, Result.andThen]
  exact hK' _ _ hK

/-- '_, ok := r.running[c]' at the operation. -/
theorem wpList_look_ptr (w : World) {ops : Array Oper} {rest : List Oper} {o : Oper} {a : Act} {Q : Exit → Act → World → Prop}
    (hg : o.guard = none) (m x : Operand) (hop : o.op = Op.lookup 47 m x true) (M B n j : Nat) (key : Value)
    (hm : a.eval m = .map (some M)) (hx : a.eval x = key) (hkey : key = ptr B j) (hj : j < n)
    (hM : w.heap[M]? = some (.map (ents B n).toArray n)) (hL : Laid w B n)
    (hK : wpList Yba.prog ops Q rest (a.put o.dst (.tuple #[.agg #[], .bool true])) w) :
    wpList Yba.prog ops Q (o :: rest) a w := by
  subst hkey
  refine wpList_plain hg fun K' hK' => ?_
  unfold Oper.wp
  simp [execOp, hop, hm, hx, look_ptr w M B n j hj hM hL, Result.andThen]
  exact hK' _ _ hK

/-- The world after i rounds of the first loop. -/
structure RI (w : World) (Sx : Nat → ByteArray) (n i : Nat) (wr : World) : Prop where
  size : wr.heap.size = w.heap.size + 3 + i
  run : wr.cell? ⟨w.heap.size, 22, none⟩ = some (.map (some (w.heap.size + 1)))
  map : wr.heap[w.heap.size + 1]? = some (.map (ents (w.heap.size + 3) i).toArray i)
  row : wr.rowIs (w.heap.size + 2) 48 n (fun j => if j < i then ptr (w.heap.size + 3) j else .pointer none)
  tests : ∀ j, j < i → ∃ cs, wr.heap[w.heap.size + 3 + j]? = some (.cells cs 66 (0, 0)) ∧ cs[2]? = some (.string (Sx j))
  below : Below w.heap.size w wr

theorem heap_put (wr : World) (a : Addr) (v : Value) (o : Obj) (k : Nat) (hk : k < wr.heap.size) (hn : k ≠ a.block) : ((wr.setCell a v).alloc o).heap[k]? = wr.heap[k]? := by
  rw [Below.heap_alloc _ _ _ (by simpa [World.setCell] using hk), Below.heap_setCell _ _ _ _ hn]

theorem RI.laid {w Sx n i wr} (h : RI w Sx n i wr) : Laid wr (w.heap.size + 3) i := fun j hj => by
  obtain ⟨cs, h1, _⟩ := h.tests j hj
  exact ⟨cs, h1⟩

/-- The world at the store into the set. -/
abbrev mid (w : World) (i : Nat) (cs : Array Value) (wr : World) : World := (wr.setCell ⟨w.heap.size + 2, i, none⟩ (.pointer (some ⟨wr.heap.size, 0, none⟩))).alloc (.cells cs 66)

theorem mid_new (w : World) (i : Nat) (cs : Array Value) (wr : World) : (mid w i cs wr).heap[wr.heap.size]? = some (.cells cs 66 (0, 0)) := by
  have := heap_alloc_new (wr.setCell ⟨w.heap.size + 2, i, none⟩ (.pointer (some ⟨wr.heap.size, 0, none⟩))) (.cells cs 66)
  have hs : (wr.setCell ⟨w.heap.size + 2, i, none⟩ (.pointer (some ⟨wr.heap.size, 0, none⟩))).heap.size = wr.heap.size := by simp [World.setCell]
  rw [hs] at this
  exact this

theorem RI.mid_map {w Sx n i wr} (h : RI w Sx n i wr) (cs : Array Value) : (mid w i cs wr).heap[w.heap.size + 1]? = some (.map (ents (w.heap.size + 3) i).toArray i) :=
  (heap_put _ _ _ _ _ (by rw [h.size]; omega) (by simp)).trans h.map

theorem RI.mid_laid {w Sx n i wr} (h : RI w Sx n i wr) (cs : Array Value) : Laid (mid w i cs wr) (w.heap.size + 3) (i + 1) := fun j hj => by
  by_cases e : j = i
  · subst e
    exact ⟨cs, by rw [← h.size]; exact mid_new _ _ _ _⟩
  · obtain ⟨c, h1, _⟩ := h.tests j (by omega)
    exact ⟨c, (heap_put _ _ _ _ _ (by rw [h.size]; omega) (by simp; omega)).trans h1⟩

theorem mid_size (w : World) (i : Nat) (cs : Array Value) (wr : World) : (mid w i cs wr).heap.size = wr.heap.size + 1 := by
  show (Array.push _ _).size = _
  simp [World.setCell]

theorem RI.next {w Sx n i wr} (h : RI w Sx n i wr) (cs : Array Value) (hc : cs[2]? = some (.string (Sx i))) :
    RI w Sx n (i + 1) (setBlock (mid w i cs wr) (w.heap.size + 1) (.map (ents (w.heap.size + 3) (i + 1)).toArray (i + 1))) where
  size := by
    show (Array.setIfInBounds _ _ _).size = _
    rw [Array.size_setIfInBounds, mid_size, h.size]; omega
  run := by
    refine (World.cell?_of_block (w := wr) ?_).trans h.run
    exact (set_other _ _ _ _ (by simp)).trans (heap_put _ _ _ _ _ (by rw [h.size]; simp; omega) (by simp))
  map := set_same _ _ _ (by rw [mid_size, h.size]; omega)
  row := by
    have h1 := h.row.set i (.pointer (some ⟨wr.heap.size, 0, none⟩))
    refine World.rowIs.of_block (w := wr.setCell ⟨w.heap.size + 2, i, none⟩ (.pointer (some ⟨wr.heap.size, 0, none⟩))) (h1.congr fun t ht => ?_) ?_
    · by_cases e : t = i
      · subst e; simp [ptr, h.size]
      · by_cases e2 : t < i
        · simp [e, e2, Nat.lt_succ_of_lt e2]
        · have : ¬ t < i + 1 := by omega
          simp [e, e2, this]
    · exact (set_other _ _ _ _ (by omega)).trans (Below.heap_alloc _ _ _ (by simp [World.setCell, h.size]; omega))
  tests := fun j hj => by
    by_cases e : j = i
    · subst e
      exact ⟨cs, (set_other _ _ _ _ (by omega)).trans (by rw [← h.size]; exact mid_new _ _ _ _), hc⟩
    · obtain ⟨c, h1, h2⟩ := h.tests j (by omega)
      exact ⟨c, (set_other _ _ _ _ (by omega)).trans ((heap_put _ _ _ _ _ (by rw [h.size]; omega) (by simp; omega)).trans h1), h2⟩
  below := by
    have h1 : Below w.heap.size w (mid w i cs wr) := (h.below.setCell (p := ⟨w.heap.size + 2, i, none⟩) (by simp) _).alloc (by simp [World.setCell, h.size]; omega) _
    refine ⟨h1.os, h1.tape, h1.output, ?_, fun k hk => (set_other _ _ _ _ (by omega)).trans (h1.block k hk)⟩
    show _ ≤ (Array.setIfInBounds _ _ _).size
    rw [Array.size_setIfInBounds]; exact h1.size
end Go.Proofs.Ybulkclpw
