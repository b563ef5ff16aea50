import Derived.Test.YbulkclpwAddPar
import Derived.Test.YbulkclpwTry
import Derived.Below
import Derived.WalkKit
namespace Go.Proofs.Ybulkclpw
open Go.MuLone Go.RowKit

/-- What the walk of LawS4377CCounts reads of the one test state at block b. -/
structure Com (b : Nat) (nm : ByteArray) (fl : Bool) (n : Int) (r : Option Nat) (w : World) : Prop where
  lt : b < w.heap.size
  c2 : w.cell? ⟨b, 2, none⟩ = some (.string nm)
  c10 : w.cell? ⟨b, 10, none⟩ = some (.int .i32 0)
  c12 : w.cell? ⟨b, 12, none⟩ = some (.bool fl)
  c25 : w.cell? ⟨b, 25, none⟩ = some (.int .i32 n)
  c29 : w.cell? ⟨b, 29, none⟩ = some (.chan r)
  z10 : w.frozen? ⟨b, 10, none⟩ = false
  z25 : w.frozen? ⟨b, 25, none⟩ = false
  z29 : w.frozen? ⟨b, 29, none⟩ = false

theorem bset {b : Nat} {a w : World} (h : Below b a w) (k : Nat) (v : Value) : Below b a (w.setCell ⟨b, k, none⟩ v) := h.setCell (p := ⟨b, k, none⟩) (Nat.le_refl _) v

theorem size_setCell (w : World) (a : Addr) (v : Value) : (w.setCell a v).heap.size = w.heap.size := by simp [World.setCell]

theorem Com.alloc {b nm fl n r w} (h : Com b nm fl n r w) (o : Obj) : Com b nm fl n r (w.alloc o) where
  lt := by show b < (w.heap.push _).size; simp; have := h.lt; omega
  c2 := (World.cell?_alloc_past _ _ _ h.lt).trans h.c2
  c10 := (World.cell?_alloc_past _ _ _ h.lt).trans h.c10
  c12 := (World.cell?_alloc_past _ _ _ h.lt).trans h.c12
  c25 := (World.cell?_alloc_past _ _ _ h.lt).trans h.c25
  c29 := (World.cell?_alloc_past _ _ _ h.lt).trans h.c29
  z10 := (World.frozen?_alloc_past _ _ _ h.lt).trans h.z10
  z25 := (World.frozen?_alloc_past _ _ _ h.lt).trans h.z25
  z29 := (World.frozen?_alloc_past _ _ _ h.lt).trans h.z29

theorem set25 {b nm fl n r w} (h : Com b nm fl n r w) (m : Int) : Com b nm fl m r (w.setCell ⟨b, 25, none⟩ (.int .i32 m)) where
  lt := by rw [size_setCell]; exact h.lt
  c2 := (World.cell?_setCell_other _ _ _ _ (by simp)).trans h.c2
  c10 := (World.cell?_setCell_other _ _ _ _ (by simp)).trans h.c10
  c12 := (World.cell?_setCell_other _ _ _ _ (by simp)).trans h.c12
  c25 := World.cell?_setCell_same _ _ _ h.c25
  c29 := (World.cell?_setCell_other _ _ _ _ (by simp)).trans h.c29
  z10 := by simp [h.z10]
  z25 := by simp [h.z25]
  z29 := by simp [h.z29]

theorem set29 {b nm fl n r w} (h : Com b nm fl n r w) (m : Option Nat) : Com b nm fl n m (w.setCell ⟨b, 29, none⟩ (.chan m)) where
  lt := by rw [size_setCell]; exact h.lt
  c2 := (World.cell?_setCell_other _ _ _ _ (by simp)).trans h.c2
  c10 := (World.cell?_setCell_other _ _ _ _ (by simp)).trans h.c10
  c12 := (World.cell?_setCell_other _ _ _ _ (by simp)).trans h.c12
  c25 := (World.cell?_setCell_other _ _ _ _ (by simp)).trans h.c25
  c29 := World.cell?_setCell_same _ _ _ h.c29
  z10 := by simp [h.z10]
  z25 := by simp [h.z25]
  z29 := by simp [h.z29]

theorem set10 {b : Nat} {nm : ByteArray} {fl : Bool} {n : Int} {r : Option Nat} {w : World} (lt : b < w.heap.size) (c2 : w.cell? ⟨b, 2, none⟩ = some (.string nm))
    (c10 : ∃ v, w.cell? ⟨b, 10, none⟩ = some v) (c12 : w.cell? ⟨b, 12, none⟩ = some (.bool fl)) (c25 : w.cell? ⟨b, 25, none⟩ = some (.int .i32 n))
    (c29 : w.cell? ⟨b, 29, none⟩ = some (.chan r)) (z10 : w.frozen? ⟨b, 10, none⟩ = false) (z25 : w.frozen? ⟨b, 25, none⟩ = false) (z29 : w.frozen? ⟨b, 29, none⟩ = false) :
    Com b nm fl n r (w.setCell ⟨b, 10, none⟩ (.int .i32 0)) where
  lt := by rw [size_setCell]; exact lt
  c2 := (World.cell?_setCell_other _ _ _ _ (by simp)).trans c2
  c10 := by obtain ⟨v, hv⟩ := c10; exact World.cell?_setCell_same _ _ _ hv
  c12 := (World.cell?_setCell_other _ _ _ _ (by simp)).trans c12
  c25 := (World.cell?_setCell_other _ _ _ _ (by simp)).trans c25
  c29 := (World.cell?_setCell_other _ _ _ _ (by simp)).trans c29
  z10 := by simp [z10]
  z25 := by simp [z25]
  z29 := by simp [z29]

theorem add_any (b : Nat) (nm : ByteArray) (fl : Bool) (n : Int) (r : Option Nat) (w : World) (h : Com b nm fl n r w) :
    Calls Yba.prog 6 #[.pointer (some ⟨b, 0, none⟩)] w fun e w' => ∃ c : Nat, (∀ x, r = some x → x = c) ∧ e = .returned (.chan (some c)) ∧ Com b nm fl (wrap32 (n + 1)) (some c) w' ∧ Below b w w' := by
  cases r with
  | some c =>
    refine (addPar.addSome b c n w h.c10 h.c25 h.c29 h.z10 h.z25).mono ?_
    rintro e w' ⟨rfl, rfl⟩
    refine ⟨c, fun x hx => by simpa using hx.symm, rfl, ?_, bset (bset (bset (Below.refl _ _) _ _) _ _) _ _⟩
    refine set10 ?_ ?_ ⟨.int .i32 1, ?_⟩ ?_ ?_ ?_ ?_ ?_ ?_
    · rw [size_setCell, size_setCell]; exact h.lt
    · exact (World.cell?_setCell_other _ _ _ _ (by simp)).trans ((World.cell?_setCell_other _ _ _ _ (by simp)).trans h.c2)
    · exact (World.cell?_setCell_other _ _ _ _ (by simp)).trans (World.cell?_setCell_same _ _ _ h.c10)
    · exact (World.cell?_setCell_other _ _ _ _ (by simp)).trans ((World.cell?_setCell_other _ _ _ _ (by simp)).trans h.c12)
    · exact World.cell?_setCell_same _ _ _ ((World.cell?_setCell_other _ _ _ _ (by simp)).trans h.c25)
    · exact (World.cell?_setCell_other _ _ _ _ (by simp)).trans ((World.cell?_setCell_other _ _ _ _ (by simp)).trans h.c29)
    · simp [h.z10]
    · simp [h.z25]
    · simp [h.z29]
  | none =>
    refine (addPar.addNone b n w h.lt h.c10 h.c25 h.c29 h.z10 h.z25 h.z29).mono ?_
    rintro e w' ⟨rfl, rfl⟩
    have hl : b < (((w.setCell ⟨b, 10, none⟩ (.int .i32 1)).setCell ⟨b, 29, none⟩ (.chan (some w.heap.size))).setCell ⟨b, 25, none⟩ (.int .i32 (wrap32 (n + 1)))).heap.size := by
      rw [size_setCell, size_setCell, size_setCell]; exact h.lt
    refine ⟨w.heap.size, fun x hx => by simp at hx, rfl, ?_, bset ((bset (bset (bset (Below.refl _ _) _ _) _ _) _ _).alloc (Nat.le_of_lt hl) _) _ _⟩
    refine set10 ?_ ?_ ⟨.int .i32 1, ?_⟩ ?_ ?_ ?_ ?_ ?_ ?_
    · show b < (Array.push _ _).size; rw [Array.size_push]; omega
    · exact (World.cell?_alloc_past _ _ _ hl).trans ((World.cell?_setCell_other _ _ _ _ (by simp)).trans ((World.cell?_setCell_other _ _ _ _ (by simp)).trans ((World.cell?_setCell_other _ _ _ _ (by simp)).trans h.c2)))
    · exact (World.cell?_alloc_past _ _ _ hl).trans ((World.cell?_setCell_other _ _ _ _ (by simp)).trans ((World.cell?_setCell_other _ _ _ _ (by simp)).trans (World.cell?_setCell_same _ _ _ h.c10)))
    · exact (World.cell?_alloc_past _ _ _ hl).trans ((World.cell?_setCell_other _ _ _ _ (by simp)).trans ((World.cell?_setCell_other _ _ _ _ (by simp)).trans ((World.cell?_setCell_other _ _ _ _ (by simp)).trans h.c12)))
    · exact (World.cell?_alloc_past _ _ _ hl).trans (World.cell?_setCell_same _ _ _ ((World.cell?_setCell_other _ _ _ _ (by simp)).trans ((World.cell?_setCell_other _ _ _ _ (by simp)).trans h.c25)))
    · exact (World.cell?_alloc_past _ _ _ hl).trans ((World.cell?_setCell_other _ _ _ _ (by simp)).trans (World.cell?_setCell_same _ _ _ ((World.cell?_setCell_other _ _ _ _ (by simp)).trans h.c29)))
    · exact (World.frozen?_alloc_past _ _ _ hl).trans (by simp [h.z10])
    · exact (World.frozen?_alloc_past _ _ _ hl).trans (by simp [h.z25])
    · exact (World.frozen?_alloc_past _ _ _ hl).trans (by simp [h.z29])
end Go.Proofs.Ybulkclpw
