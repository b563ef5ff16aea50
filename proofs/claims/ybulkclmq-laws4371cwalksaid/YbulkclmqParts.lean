/- Plain laws on worlds for this seat: two owned rows hung in a block of two cells. No function of the program is named here. -/
import Derived.WalkKit
import Derived.WalkSmall
import Derived.Deep.AppendLies
namespace Go.Proofs.Ybulkclmq
open Go.RowKit

theorem own_ne {w : World} {b b' e e' s s' n n' : Nat} {v v' : Value} {xs xs' : List Value} (h : w.ownsRow b e s v n xs) (k : w.ownsRow b' e' s' v' n' xs') (hne : e ≠ e') :
    v.ownBlock = none ∨ v.ownBlock ≠ v'.ownBlock := by
  rcases h.2 with ⟨rfl, _⟩ | ⟨g, cap, cur, rfl, _, hg, _⟩
  · exact .inl rfl
  · right
    rcases k.2 with ⟨rfl, _⟩ | ⟨g', cap', cur', rfl, _, hg', _⟩
    · simp [Value.ownBlock]
    · simp only [Value.ownBlock, ne_eq, Option.some.injEq]
      intro e0
      subst e0
      rw [hg] at hg'
      simp at hg'
      exact hne hg'.2

theorem cell_one_at (w : World) (x : Value) (t : TypeId) (n : Nat) (hn : w.heap.size = n) : ∀ j u, [x][j]? = some u → (w.alloc (.cells #[x] t)).cell? ((⟨n, 0, none⟩ : Addr).add j) = some u := by
  subst hn; exact cell_one_new w x t
theorem far_cell {wr w1 : World} {row : Option Nat} {o : Obj} {a : Addr} {v : Value} (hg : ((wr.alloc o).drew).grownBy w1 row) (hc : wr.cell? a = some v) (hne : row ≠ some a.block) : w1.cell? a = some v := by
  have hl := World.block_lt_of_cell? wr a hc
  rw [hg.cell_far a (by show a.block < (wr.alloc o).heap.size; simp; omega) (Ne.symm hne)]
  exact (World.cell?_of_block (Below.heap_alloc wr o a.block hl)).trans hc
theorem size_setCell (w : World) (a : Addr) (v : Value) : (w.setCell a v).heap.size = w.heap.size := by simp [World.setCell]

theorem two_lt {w : World} {X : Nat} {o : Obj} (h : w.heap[X]? = some o) : X < w.heap.size := lt_of_block h
theorem two_cell0 {w : World} {X : Nat} {a b : Value} {t : TypeId} (h : w.heap[X]? = some (.cells #[a, b] t (0, 0))) : w.cell? ⟨X, 0, none⟩ = some a := by simp [World.cell?, h]
theorem two_cell1 {w : World} {X : Nat} {a b : Value} {t : TypeId} (h : w.heap[X]? = some (.cells #[a, b] t (0, 0))) : w.cell? ⟨X, 1, none⟩ = some b := by simp [World.cell?, h]
theorem two_free {w : World} {X i : Nat} {a b : Value} {t : TypeId} (h : w.heap[X]? = some (.cells #[a, b] t (0, 0))) : w.frozen? ⟨X, i, none⟩ = false := by simp [World.frozen?, h]
theorem two_set0 {w : World} {X : Nat} {a b : Value} {t : TypeId} (h : w.heap[X]? = some (.cells #[a, b] t (0, 0))) (u : Value) : (w.setCell ⟨X, 0, none⟩ u).heap[X]? = some (.cells #[u, b] t (0, 0)) := by
  have := heap_setCell_same w X 0 _ _ u h
  simpa using this
theorem two_set1 {w : World} {X : Nat} {a b : Value} {t : TypeId} (h : w.heap[X]? = some (.cells #[a, b] t (0, 0))) (u : Value) : (w.setCell ⟨X, 1, none⟩ u).heap[X]? = some (.cells #[a, u] t (0, 0)) := by
  have := heap_setCell_same w X 1 _ _ u h
  simpa using this

theorem below_grown {w w' : World} (h : Below w.heap.size w w') : w.grownBy w' none := ⟨h.os, h.tape, h.output, h.size, fun k hk _ => h.block k hk⟩
theorem own_below {w w' : World} {b e s n : Nat} {v : Value} {xs : List Value} (h : w.ownsRow b e s v n xs) (hb : Below w.heap.size w w') : w'.ownsRow b e s v n xs :=
  h.kept (below_grown hb) (by cases hv : v.ownBlock <;> simp)

/-- Block X holds two slices, which own their rows from 'base' on. -/
structure I2 (base X t e1 s1 e2 s2 n1 n2 : Nat) (v1 v2 : Value) (xs1 xs2 : List Value) (w : World) : Prop where
  blk : w.heap[X]? = some (.cells #[v1, v2] t (0, 0))
  o1 : w.ownsRow base e1 s1 v1 n1 xs1
  o2 : w.ownsRow base e2 s2 v2 n2 xs2
  lt : X < base
  le : base ≤ w.heap.size

section
variable {base X t e1 s1 e2 s2 n1 n2 : Nat} {v1 v2 : Value} {xs1 xs2 : List Value} {w w1 : World}

theorem I2.below (h : I2 base X t e1 s1 e2 s2 n1 n2 v1 v2 xs1 xs2 w) (hb : Below w.heap.size w w1) : I2 base X t e1 s1 e2 s2 n1 n2 v1 v2 xs1 xs2 w1 :=
  ⟨(hb.block X (two_lt h.blk)).trans h.blk, own_below h.o1 hb, own_below h.o2 hb, h.lt, Nat.le_trans h.le hb.size⟩
theorem I2.alloc (h : I2 base X t e1 s1 e2 s2 n1 n2 v1 v2 xs1 xs2 w) (o : Obj) : I2 base X t e1 s1 e2 s2 n1 n2 v1 v2 xs1 xs2 (w.alloc o) := h.below ((Below.refl _ _).alloc (Nat.le_refl _) _)
theorem I2.drew (h : I2 base X t e1 s1 e2 s2 n1 n2 v1 v2 xs1 xs2 w) : I2 base X t e1 s1 e2 s2 n1 n2 v1 v2 xs1 xs2 w.drew := h.below (Below.refl _ _).drew

/-- Behind an append to the first row. -/
theorem I2.grow1 (h : I2 base X t e1 s1 e2 s2 n1 n2 v1 v2 xs1 xs2 w) (hne : e2 ≠ e1) (hg : w.grownBy w1 v1.ownBlock) : w1.heap[X]? = some (.cells #[v1, v2] t (0, 0)) ∧ w1.ownsRow base e2 s2 v2 n2 xs2 ∧ base ≤ w1.heap.size := by
  refine ⟨(hg.block X (two_lt h.blk) ?_).trans h.blk, h.o2.kept hg (own_ne h.o2 h.o1 hne), Nat.le_trans h.le hg.size⟩
  intro e0
  have := (h.o1.lt X e0.symm).1
  have := h.lt
  omega
theorem I2.put1 (h : I2 base X t e1 s1 e2 s2 n1 n2 v1 v2 xs1 xs2 w) (hne : e2 ≠ e1) (hg : w.grownBy w1 v1.ownBlock) {v1' : Value} {n1' : Nat} {xs1' : List Value} (ho : w1.ownsRow base e1 s1 v1' n1' xs1') :
    I2 base X t e1 s1 e2 s2 n1' n2 v1' v2 xs1' xs2 (w1.setCell ⟨X, 0, none⟩ v1') := by
  obtain ⟨a, b, c⟩ := h.grow1 hne hg
  exact ⟨two_set0 a _, ownsRow_setCell_below ho h.lt _, ownsRow_setCell_below b h.lt _, h.lt, by simpa [World.setCell] using c⟩
/-- Behind an append to the second row. -/
theorem I2.grow2 (h : I2 base X t e1 s1 e2 s2 n1 n2 v1 v2 xs1 xs2 w) (hne : e1 ≠ e2) (hg : w.grownBy w1 v2.ownBlock) : w1.heap[X]? = some (.cells #[v1, v2] t (0, 0)) ∧ w1.ownsRow base e1 s1 v1 n1 xs1 ∧ base ≤ w1.heap.size := by
  refine ⟨(hg.block X (two_lt h.blk) ?_).trans h.blk, h.o1.kept hg (own_ne h.o1 h.o2 hne), Nat.le_trans h.le hg.size⟩
  intro e0
  have := (h.o2.lt X e0.symm).1
  have := h.lt
  omega
theorem I2.put2 (h : I2 base X t e1 s1 e2 s2 n1 n2 v1 v2 xs1 xs2 w) (hne : e1 ≠ e2) (hg : w.grownBy w1 v2.ownBlock) {v2' : Value} {n2' : Nat} {xs2' : List Value} (ho : w1.ownsRow base e2 s2 v2' n2' xs2') :
    I2 base X t e1 s1 e2 s2 n1 n2' v1 v2' xs1 xs2' (w1.setCell ⟨X, 1, none⟩ v2') := by
  obtain ⟨a, b, c⟩ := h.grow2 hne hg
  exact ⟨two_set1 a _, ownsRow_setCell_below b h.lt _, ownsRow_setCell_below ho h.lt _, h.lt, by simpa [World.setCell] using c⟩
theorem I2.bel1 {B : Nat} {a : World} (h : I2 base X t e1 s1 e2 s2 n1 n2 v1 v2 xs1 xs2 w) (hB : B ≤ X) (hb : Below B a w) (hg : w.grownBy w1 v1.ownBlock) (i : Nat) (u : Value) : Below B a (w1.setCell ⟨X, i, none⟩ u) :=
  (hb.grown hg (by have := two_lt h.blk; omega) (fun k hk => by have := (h.o1.lt k hk).1; have := h.lt; omega)).setCell (by simpa using hB) _
theorem I2.bel2 {B : Nat} {a : World} (h : I2 base X t e1 s1 e2 s2 n1 n2 v1 v2 xs1 xs2 w) (hB : B ≤ X) (hb : Below B a w) (hg : w.grownBy w1 v2.ownBlock) (i : Nat) (u : Value) : Below B a (w1.setCell ⟨X, i, none⟩ u) :=
  (hb.grown hg (by have := two_lt h.blk; omega) (fun k hk => by have := (h.o2.lt k hk).1; have := h.lt; omega)).setCell (by simpa using hB) _
end
end Go.Proofs.Ybulkclmq
