/- Plain laws for the law of WritePages: the chunks, the start, the ends. -/
import Derived.Test.YbulkclouPg5
namespace Go.Proofs.Ybulkclou.Pg
open Go.RowKit
set_option linter.unusedVariables false

/-- What is told of a slice of bytes that came in. -/
def IsBytes (W : World) (v : Value) (xs : List Int) : Prop :=
  ∃ (a : Option Addr) (k : Nat), v = .slice a xs.length k ∧ xs.length ≤ k ∧ k ≤ 9223372036854775807 ∧
    (0 < xs.length → ∃ b off, a = some ⟨b, off, none⟩ ∧ b < W.heap.size ∧ ∀ t, t < xs.length → W.cell? ⟨b, off + t, none⟩ = some (.int .u8 (xs.getD t 0)))

def cat (X : Nat → List Int) (i : Nat) : List Int := ((List.range i).map X).flatten
theorem cat_succ (X : Nat → List Int) (i : Nat) : cat X (i + 1) = cat X i ++ X i := by simp [cat, List.range_succ]
theorem cat_zero (X : Nat → List Int) : cat X 0 = [] := rfl
theorem cat_le (X : Nat → List Int) {i j : Nat} (h : i ≤ j) : (cat X i).length ≤ (cat X j).length := by
  induction j with
  | zero => obtain rfl : i = 0 := by omega
            exact Nat.le_refl _
  | succ j ih =>
    by_cases e : i = j + 1
    · subst e; exact Nat.le_refl _
    · rw [cat_succ, List.length_append]
      have := ih (by omega)
      omega

theorem run_append_empty (w : World) (base : Nat) (t ty e : TypeId) (i : TypeInfo) (ht : Yba.prog.underlying t = some (.slice e)) (hi : Yba.prog.info? e = some i)
    (v : Value) (n : Nat) (xs : List Value) (hown : w.ownsRow base e 1 v n xs) (a : Option Addr) (k : Nat) :
    (Builtin.append_ #[t, t] ty #[v, .slice a 0 k]).run Yba.prog w = .ok v w := by
  rcases hown.2 with ⟨rfl, rfl⟩ | ⟨g, cap, cur, rfl, _, _, hnc, _⟩ <;> cases a
  · simp [Builtin.append_, run_underlying ht, sizeOf, typeInfo, hi, Builtin.lenOf, Builtin.firstCells]
  · simp [Builtin.append_, run_underlying ht, sizeOf, typeInfo, hi, Builtin.lenOf, Builtin.firstCells, loadCells, loadCellsFrom]
  · simp [Builtin.append_, run_underlying ht, sizeOf, typeInfo, hi, Builtin.lenOf, Builtin.firstCells, hnc, storeCells]
  · simp [Builtin.append_, run_underlying ht, sizeOf, typeInfo, hi, Builtin.lenOf, Builtin.firstCells, hnc, storeCells, loadCells, loadCellsFrom]

section
variable {c : Cx} {vo vd vp : Value} {dv : List Value} {os : List Int} {pgs : List (List Int)} {bs ps : List Int} {sz : Int} {er : Value} {fl : Nat} {en : Int} {vD : Value} {xD : List Int} {w w1 : World}

theorem SI.appD (h : SI c vo vd vp dv os pgs bs ps sz er fl en vD xD w) (hbase : c.base = c.W.heap.size) {v : Value} {ys : List Int} (hv : IsBytes c.W v ys) (hl : xD.length + ys.length ≤ 4096) :
    ∃ vD' w', (Builtin.append_ #[33, 33] 33 #[vD, v]).run Yba.prog w = .ok vD' w' ∧ SI c vo vd vp dv os pgs bs ps sz er fl en vD' (xD ++ ys) w' := by
  obtain ⟨i5, hi5, hz50, hz51, hz52⟩ := info_parts info5
  obtain ⟨a, k, rfl, hk1, hk2, hcs⟩ := hv
  by_cases h0 : ys.length = 0
  · obtain rfl := List.eq_nil_of_length_eq_zero h0
    exact ⟨vD, w, run_append_empty w c.base 33 33 5 i5 Yba.underlying33 hi5 vD _ _ h.oD a k, by simpa using h⟩
  · obtain ⟨b, off, rfl, hb, hc⟩ := hcs (by omega)
    obtain ⟨g, cap, w', hr, ho, hg, hat, hlt⟩ := run_append_lies (P := Yba.prog) w 33 33 c.base 5 i5 _ 1 1 Yba.underlying33 hi5 hz50 hz51 hz52 rfl (by omega) vD xD.length (by8 xD) h.oD ⟨b, off, none⟩ ys.length k (by8 ys) (by simp) (by
      have := chunk_news (i := 0) (q := ys.length) h.bel (by rw [hbase]; exact hb) rfl (by omega) hc
      simpa using this) (one8 _) (by omega) (by unfold maxLen; omega) (by omega) h.le w.heap.size rfl
    exact ⟨_, w', hr, h.addD hg rfl ho hat rfl⟩
end

section
variable {c : Cx} {e0 : Int} {D xD ys : List Int} {vD v : Value} {w : World}
theorem Okay.appD (h : Okay c e0 D vD xD w) (hbase : c.base = c.W.heap.size) (hv : IsBytes c.W v ys) (hl : xD.length + ys.length ≤ 4096) :
    ∃ vD' w', (Builtin.append_ #[33, 33] 33 #[vD, v]).run Yba.prog w = .ok vD' w' ∧ Okay c e0 D vD' (xD ++ ys) w' := by
  obtain ⟨vo, vd, vp, dv, k, pgs, bs, h1, h2, h3, h4, h5, h6⟩ := h
  obtain ⟨vD', w', hr, h7⟩ := h6.appD hbase hv hl
  exact ⟨vD', w', hr, vo, vd, vp, dv, k, pgs, bs, h1, h2, h3, h4, h5, h7⟩
theorem Failed.appD (h : Failed c e0 D vD xD w) (hbase : c.base = c.W.heap.size) (hv : IsBytes c.W v ys) (hl : xD.length + ys.length ≤ 4096) :
    ∃ vD' w', (Builtin.append_ #[33, 33] 33 #[vD, v]).run Yba.prog w = .ok vD' w' ∧ Failed c e0 D vD' (xD ++ ys) w' := by
  obtain ⟨vo, vd, vp, dv, k, pgs, bs, rest, h1, h2, h3, h4, h5, h6⟩ := h
  obtain ⟨vD', w', hr, h7⟩ := h6.appD hbase hv hl
  exact ⟨vD', w', hr, vo, vd, vp, dv, k, pgs, bs, rest, h1, h2, h3, h4, h5, h7⟩

theorem Okay.lt (h : Okay c e0 D vD xD w) : c.F = 0 ∨ D.length < c.F * c.P := by
  obtain ⟨vo, vd, vp, dv, k, pgs, bs, h1, h2, h3, rfl, h5, h6⟩ := h
  rcases h5 with h5 | h5
  · exact .inl h5
  · right
    have e1 := flat_len pgs h2
    have e2 : (k + 1) * c.P ≤ c.F * c.P := Nat.mul_le_mul_right _ h5
    rw [Nat.succ_mul] at e2
    rw [List.length_append, e1, ← h1]
    omega
theorem Failed.le (h : Failed c e0 D vD xD w) : 0 < c.F ∧ c.F * c.P ≤ D.length := by
  obtain ⟨vo, vd, vp, dv, k, pgs, bs, rest, h1, h2, h3, rfl, h5, h6⟩ := h
  have e1 := flat_len pgs h2
  refine ⟨by omega, ?_⟩
  rw [← h5, Nat.succ_mul]
  simp [e1, ← h1, h3]
theorem Okay.stub (h : Okay c e0 D vD xD w) : w.cell? ⟨c.SB, 2, none⟩ = some (.int .i64 c.F) ∧ w.cell? ⟨c.SB, 3, none⟩ = some (.iface 75 (.pointer (some ⟨c.EB, 0, none⟩))) := by
  obtain ⟨vo, vd, vp, dv, k, pgs, bs, h1, h2, h3, rfl, h5, h6⟩ := h
  exact ⟨four_cell2 h6.stub, four_cell3 h6.stub⟩
theorem Failed.stub (h : Failed c e0 D vD xD w) : w.cell? ⟨c.SB, 2, none⟩ = some (.int .i64 c.F) ∧ w.cell? ⟨c.SB, 3, none⟩ = some (.iface 75 (.pointer (some ⟨c.EB, 0, none⟩))) := by
  obtain ⟨vo, vd, vp, dv, k, pgs, bs, rest, h1, h2, h3, rfl, h5, h6⟩ := h
  exact ⟨four_cell2 h6.stub, four_cell3 h6.stub⟩
theorem Okay.bel (h : Okay c e0 D vD xD w) : Below c.base c.W w := by
  obtain ⟨vo, vd, vp, dv, k, pgs, bs, h1, h2, h3, rfl, h5, h6⟩ := h
  exact h6.bel
theorem Failed.bel (h : Failed c e0 D vD xD w) : Below c.base c.W w := by
  obtain ⟨vo, vd, vp, dv, k, pgs, bs, rest, h1, h2, h3, rfl, h5, h6⟩ := h
  exact h6.bel
end

/-- The world behind newPageWriter. -/
def started (w1 : World) (s : ByteArray) (P F L fcap : Nat) (fa : Option Addr) (e0 : Int) : World :=
  (((((w1.alloc (.cells #[.string s] 77)).alloc (.cells #[nilS, nilS, .int .i64 F, .iface 75 (.pointer (some ⟨w1.heap.size, 0, none⟩))] 53)).alloc
    (.cells (FC P (w1.heap.size + 1) e0 (.slice fa L fcap)) 61)).alloc (.cells (madeCells #[Value.int .u8 0] P) 5)).alloc
    (.cells #[.pointer (some ⟨w1.heap.size + 1 + 1, 0, none⟩), .slice (some ⟨w1.heap.size + 1 + 1 + 1, 0, none⟩) 0 P, nilS, .int .i64 0, .nilIface] 69))

theorem size4 (w : World) (A B C D : Obj) : w.heap.size + 1 + 1 + 1 + 1 = ((((w.alloc A).alloc B).alloc C).alloc D).heap.size := by simp

theorem start_ok (W w1 : World) (s : ByteArray) (P F L fcap : Nat) (fa : Option Addr) (frs : List Int) (e0 : Int) (hb : Below W.heap.size W w1) (hP : 1 ≤ P) (hP2 : P ≤ 16) (he : -9223372036854775808 ≤ e0 ∧ e0 ≤ 9223372036854775807)
    (ho : w1.ownsRow W.heap.size 2 1 (.slice fa L fcap) L (i6 frs)) :
    Okay ⟨W, W.heap.size, w1.heap.size + 1, w1.heap.size + 1 + 1, w1.heap.size + 1 + 1 + 1 + 1, w1.heap.size + 1 + 1 + 1, w1.heap.size, P, F, L, fcap, fa, frs⟩ e0 [] nilS [] (started w1 s P F L fcap fa e0) := by
  have hle : W.heap.size ≤ w1.heap.size := hb.size
  refine ⟨nilS, nilS, nilS, [], 0, [], [], rfl, by simp, by show 0 < P; omega, rfl, by show F = 0 ∨ 0 < F; omega, ?_⟩
  have he0 : enAt ⟨W, W.heap.size, w1.heap.size + 1, w1.heap.size + 1 + 1, w1.heap.size + 1 + 1 + 1 + 1, w1.heap.size + 1 + 1 + 1, w1.heap.size, P, F, L, fcap, fa, frs⟩ e0 0 = e0 := by
    unfold enAt
    simp only [Nat.zero_sub, Nat.zero_mul]
    rw [IntKind.wrap_i64]
    omega
  rw [he0, Nat.zero_mul]
  unfold started
  exact {
    bel := ((((hb.alloc hle _).alloc (by simp; omega) _).alloc (by simp; omega) _).alloc (by simp; omega) _).alloc (by simp; omega) _
    le := by simp; omega
    bS := by show W.heap.size ≤ w1.heap.size + 1; omega
    bF := by show W.heap.size ≤ w1.heap.size + 1 + 1; omega
    bW := by show W.heap.size ≤ w1.heap.size + 1 + 1 + 1 + 1; omega
    bB := by show W.heap.size ≤ w1.heap.size + 1 + 1 + 1; omega
    stub := hp_alloc (hp_alloc (hp_alloc (hp_new (by simp))))
    find := hp_alloc (hp_alloc (hp_new (by simp)))
    wr := hp_new (size4 _ _ _ _ _)
    ob := by
      refine ⟨by simp, .inr ⟨w1.heap.size + 1 + 1 + 1, P, madeCells #[Value.int .u8 0] P, rfl, by show W.heap.size ≤ _; omega, hp_alloc (hp_new (by simp)), Nat.zero_le _, by unfold maxLen; show P ≤ _; omega, by simp [size_madeCells], by simp⟩⟩
    oo := World.ownsRow_nil _ _ _ _
    od := World.ownsRow_nil _ _ _ _
    pg := fun j p hp => by simp at hp
    op := World.ownsRow_nil _ _ _ _
    of := ((((ho.alloc _).alloc _).alloc _).alloc _).alloc _
    oD := World.ownsRow_nil _ _ _ _
    n1 := .inl rfl
    n2 := .inl rfl
    n3 := .inl rfl
    n5 := by simp [Value.ownBlock] }
end Go.Proofs.Ybulkclou.Pg
