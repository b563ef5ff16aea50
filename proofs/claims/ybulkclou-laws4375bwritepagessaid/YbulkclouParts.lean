/- Plain laws on worlds for this seat. No function of the program is named here. -/
import Derived.WalkKit
import Derived.WalkSmall
import Derived.Deep.AppendLies
import Derived.Deep.OwnRows
namespace Go.Proofs.Ybulkclou
open Go.RowKit
set_option linter.unusedVariables false

theorem size_setCell (w : World) (a : Addr) (v : Value) : (w.setCell a v).heap.size = w.heap.size := by simp [World.setCell]

section
variable {w w1 w2 : World} {k : Nat} {x o : Obj} {row : Option Nat}
theorem hp_drew (h : w.heap[k]? = some x) : w.drew.heap[k]? = some x := h
theorem hp_alloc (h : w.heap[k]? = some x) : (w.alloc o).heap[k]? = some x := (Below.heap_alloc w o k (lt_of_block h)).trans h
theorem hp_new {n : Nat} (h : n = w.heap.size) : (w.alloc o).heap[n]? = some o := by subst h; exact heap_alloc_new w o
theorem hp_below (hb : Below w.heap.size w w1) (h : w.heap[k]? = some x) : w1.heap[k]? = some x := (hb.block k (lt_of_block h)).trans h
theorem hp_grown (hg : w.grownBy w1 row) (hne : row ≠ some k) (h : w.heap[k]? = some x) : w1.heap[k]? = some x := (hg.block k (lt_of_block h) (Ne.symm hne)).trans h
theorem hp_setOther (h : w.heap[k]? = some x) {a : Addr} (ha : k ≠ a.block) (u : Value) : (w.setCell a u).heap[k]? = some x := (Below.heap_setCell w a u k ha).trans h

theorem gb_refl (w : World) (row : Option Nat) : w.grownBy w row := ⟨rfl, rfl, rfl, Nat.le_refl _, fun _ _ _ => rfl⟩
theorem gb_alloc (h : w.grownBy w1 row) : w.grownBy (w1.alloc o) row :=
  ⟨h.os, h.tape, h.output, by simp; have := h.size; omega, fun k hk hr => (Below.heap_alloc w1 o k (Nat.lt_of_lt_of_le hk h.size)).trans (h.block k hk hr)⟩
theorem gb_drew (h : w.grownBy w1 row) : w.grownBy w1.drew row := ⟨h.os, h.tape, h.output, h.size, h.block⟩
theorem gb_set {c i : Nat} (h : w.grownBy w1 (some c)) (v : Value) : w.grownBy (w1.setCell ⟨c, i, none⟩ v) (some c) :=
  ⟨h.os, h.tape, h.output, by rw [size_setCell]; exact h.size, fun k hk hr => (Below.heap_setCell w1 _ v k (fun e => hr (by rw [e]))).trans (h.block k hk hr)⟩
theorem gb_below (h : w.grownBy w1 row) (hb : Below w1.heap.size w1 w2) : w.grownBy w2 row :=
  ⟨hb.os.trans h.os, hb.tape.trans h.tape, hb.output.trans h.output, Nat.le_trans h.size hb.size, fun k hk hr => (hb.block k (Nat.lt_of_lt_of_le hk h.size)).trans (h.block k hk hr)⟩
theorem gb_trans (h : w.grownBy w1 row) (h2 : w1.grownBy w2 row) : w.grownBy w2 row :=
  ⟨h2.os.trans h.os, h2.tape.trans h.tape, h2.output.trans h.output, Nat.le_trans h.size h2.size, fun k hk hr => (h2.block k (Nat.lt_of_lt_of_le hk h.size) hr).trans (h.block k hk hr)⟩
theorem below_grown (h : Below w.heap.size w w1) : w.grownBy w1 none := ⟨h.os, h.tape, h.output, h.size, fun k hk _ => h.block k hk⟩
theorem gb_bel {B : Nat} (h : w.grownBy w1 row) (hB : B ≤ w.heap.size) (hr : ∀ k, row = some k → B ≤ k) : Below B w w1 := (Below.refl B w).grown h hB hr
end

section
variable {w : World} {X i : Nat} {a b c : Value} {t : TypeId}
theorem two_cell0 (h : w.heap[X]? = some (.cells #[a, b] t (0, 0))) : w.cell? ⟨X, 0, none⟩ = some a := by simp [World.cell?, h]
theorem two_cell1 (h : w.heap[X]? = some (.cells #[a, b] t (0, 0))) : w.cell? ⟨X, 1, none⟩ = some b := by simp [World.cell?, h]
theorem two_free (h : w.heap[X]? = some (.cells #[a, b] t (0, 0))) : w.frozen? ⟨X, i, none⟩ = false := by simp [World.frozen?, h]
theorem three_cell0 (h : w.heap[X]? = some (.cells #[a, b, c] t (0, 0))) : w.cell? ⟨X, 0, none⟩ = some a := by simp [World.cell?, h]
theorem three_cell1 (h : w.heap[X]? = some (.cells #[a, b, c] t (0, 0))) : w.cell? ⟨X, 1, none⟩ = some b := by simp [World.cell?, h]
theorem three_cell2 (h : w.heap[X]? = some (.cells #[a, b, c] t (0, 0))) : w.cell? ⟨X, 2, none⟩ = some c := by simp [World.cell?, h]
theorem three_free (h : w.heap[X]? = some (.cells #[a, b, c] t (0, 0))) : w.frozen? ⟨X, i, none⟩ = false := by simp [World.frozen?, h]
theorem three_set0 (h : w.heap[X]? = some (.cells #[a, b, c] t (0, 0))) (u : Value) : (w.setCell ⟨X, 0, none⟩ u).heap[X]? = some (.cells #[u, b, c] t (0, 0)) := by
  have := heap_setCell_same w X 0 _ _ u h; simpa using this
theorem three_set1 (h : w.heap[X]? = some (.cells #[a, b, c] t (0, 0))) (u : Value) : (w.setCell ⟨X, 1, none⟩ u).heap[X]? = some (.cells #[a, u, c] t (0, 0)) := by
  have := heap_setCell_same w X 1 _ _ u h; simpa using this
theorem three_set2 (h : w.heap[X]? = some (.cells #[a, b, c] t (0, 0))) (u : Value) : (w.setCell ⟨X, 2, none⟩ u).heap[X]? = some (.cells #[a, b, u] t (0, 0)) := by
  have := heap_setCell_same w X 2 _ _ u h; simpa using this
end
end Go.Proofs.Ybulkclou
