/- advance, over what the law has built: three contracts. -/
import Derived.Test.YbulkclouAdvP
import Derived.LaidEql
namespace Go.Proofs.Ybulkclou
open Go.RowKit
set_option linter.unusedVariables false

theorem BS.adv {B n i L : Nat} {st : Bool} {ea kI k' : Int} {c kb : Nat → Nat} {fH : Nat → Value} {esv : Value} {ents : List Value} {w w1 : World} (h : BS B n i L n st ea c kb kI fH esv ents w) (hin : i < n) (hg : w.grownBy w1 (some (c i)))
    (hc : w1.heap[c i]? = some (.cells #[esv, .int .i64 ea, .int .i64 k'] 32 (0, 0))) (x0 x1 x2 : Value) :
    ∃ fH', BS B n i L n st ea c kb k' fH' esv ents (((w1.setCell ⟨B + 1, i * 4 + 1, none⟩ x0).setCell ⟨B + 1, i * 4 + 2, none⟩ x1).setCell ⟨B + 1, i * 4 + 3, none⟩ x2) ∧ fH' (i * 4 + 1) = x0 ∧ fH' (i * 4 + 2) = x1 ∧ fH' (i * 4 + 3) = x2 := by
  refine ⟨_, (((h.atC hin hg hc).atH (i * 4 + 1) x0 (by omega) (by omega)).atH (i * 4 + 2) x1 (by omega) (by omega)).atH (i * 4 + 3) x2 (by omega) (by omega), ?_, ?_, ?_⟩
  · simp
  · simp
  · simp

theorem BS.advB {B n i L : Nat} {st : Bool} {ea kI : Int} {c kb : Nat → Nat} {fH : Nat → Value} {esv : Value} {ents : List Value} {w w1 : World} (h : BS B n i L n st ea c kb kI fH esv ents w) (hin : i < n) (hg : w.grownBy w1 (some (c i))) (x0 x1 x2 : Value) :
    Below B w (((w1.setCell ⟨B + 1, i * 4 + 1, none⟩ x0).setCell ⟨B + 1, i * 4 + 2, none⟩ x1).setCell ⟨B + 1, i * 4 + 3, none⟩ x2) := by
  have hl := h.lt
  have hlo := h.lo i hin
  exact (((gb_bel hg (by omega) (fun k hk => by simp at hk; omega)).setCell (p := ⟨B + 1, i * 4 + 1, none⟩) (Nat.le_succ B) x0).setCell (p := ⟨B + 1, i * 4 + 2, none⟩) (Nat.le_succ B) x1).setCell (p := ⟨B + 1, i * 4 + 3, none⟩) (Nat.le_succ B) x2

theorem adv_err (B n i L t : Nat) (st : Bool) (ea : Int) (c kb : Nat → Nat) (fH : Nat → Value) (esv : Value) (ents : List Value) (w : World) (hin : i < n) (hn : n ≤ 100000) (ht : t ≤ 100000) (hea : ea = t) (h : BS B n i L n st ea c kb t fH esv ents w) :
    Calls Yba.prog 5 #[.pointer (some ⟨B + 1 + 1, 0, none⟩), .int .i64 i] w fun e w' => ∃ x fH', e = .returned (.tuple #[.bool false, .iface 75 (.pointer (some x))]) ∧ BS B n i L n st ea c kb ((t : Int) + 1) fH' esv ents w' ∧
      fH' (i * 4 + 1) = nilS ∧ fH' (i * 4 + 2) = .int .i64 0 ∧ fH' (i * 4 + 3) = nilS ∧ Below B w w' := by
  subst hea
  have hlo := h.lo i hin
  refine (adv (B + 1 + 1) (B + 1) n (c i) i st nilS (.int .i64 0) nilS false _ fH w (fun w' => w'.heap[c i]? = some (.cells #[esv, .int .i64 t, .int .i64 (t + 1)] 32 (0, 0))) hin hn h.mb h.hb ?_ (by omega) ⟨_, _, _, rfl⟩ ⟨_, rfl⟩ ⟨_, _, _, rfl⟩ (next_err (c i) t esv w ht (h.own hin).1)).mono ?_
  · rw [h.hd (i * 4) (by omega) (.inr (by omega)), (headV_q c kb i).1]
  · rintro e w' ⟨rfl, w1, hp, hg, rfl⟩
    obtain ⟨fH', a, b, d, f⟩ := h.adv hin hg hp nilS (.int .i64 0) nilS
    exact ⟨_, fH', rfl, a, b, d, f, h.advB hin hg _ _ _⟩

theorem adv_end (B n i L t : Nat) (st : Bool) (ea : Int) (c kb : Nat → Nat) (fH : Nat → Value) (esv : Value) (ents : List Value) (w : World) (hin : i < n) (hn : n ≤ 100000) (ht : t ≤ 100000) (hea : ((t : Int) == ea) = false) (hL : L ≤ t) (h : BS B n i L n st ea c kb t fH esv ents w) :
    Calls Yba.prog 5 #[.pointer (some ⟨B + 1 + 1, 0, none⟩), .int .i64 i] w fun e w' => ∃ fH', e = .returned (.tuple #[.bool false, .nilIface]) ∧ BS B n i L n st ea c kb ((t : Int) + 1) fH' esv ents w' ∧
      fH' (i * 4 + 1) = nilS ∧ fH' (i * 4 + 2) = .int .i64 0 ∧ fH' (i * 4 + 3) = nilS ∧ Below B w w' := by
  have hlo := h.lo i hin
  have hes : ∃ a cap, esv = .slice a L cap := by
    rcases (h.own hin).2.1.2 with ⟨rfl, h0⟩ | ⟨g, cap, cur, rfl, _⟩
    · exact ⟨none, 0, by rw [h0]⟩
    · exact ⟨_, _, rfl⟩
  obtain ⟨a, cap, rfl⟩ := hes
  refine (adv (B + 1 + 1) (B + 1) n (c i) i st nilS (.int .i64 0) nilS false _ fH w (fun w' => w'.heap[c i]? = some (.cells #[.slice a L cap, .int .i64 ea, .int .i64 (t + 1)] 32 (0, 0))) hin hn h.mb h.hb ?_ (by omega) ⟨_, _, _, rfl⟩ ⟨_, rfl⟩ ⟨_, _, _, rfl⟩ (next_end (c i) t L cap ea a w ht hea hL (h.own hin).1)).mono ?_
  · rw [h.hd (i * 4) (by omega) (.inr (by omega)), (headV_q c kb i).1]
  · rintro e w' ⟨rfl, w1, hp, hg, rfl⟩
    obtain ⟨fH', a, b, d, f⟩ := h.adv hin hg hp nilS (.int .i64 0) nilS
    exact ⟨fH', rfl, a, b, d, f, h.advB hin hg _ _ _⟩

/-- The entry that the i-th cursor has at t. -/
theorem BS.entry {B n i L t : Nat} {st : Bool} {ea kI : Int} {c kb : Nat → Nat} {fH : Nat → Value} {esv : Value} {ents : List Value} {w : World} (h : BS B n i L n st ea c kb kI fH esv ents w) (hin : i < n) (hL : t < L) :
    ∃ g cap x0 l x2, esv = .slice (some ⟨g, 0, none⟩) L cap ∧ g < w.heap.size ∧ g ≠ c i ∧ w.cell? ⟨g, t * 3, none⟩ = some x0 ∧ w.cell? ⟨g, t * 3 + 1, none⟩ = some (.int .i64 l) ∧ w.cell? ⟨g, t * 3 + 2, none⟩ = some x2 ∧ RdRow w x0 ∧ RdRow w x2 ∧
      ents[t * 3]? = some x0 ∧ ents[t * 3 + 1]? = some (.int .i64 l) ∧ ents[t * 3 + 2]? = some x2 := by
  obtain ⟨hc, hE⟩ := h.own hin
  obtain ⟨g, cap, rfl, _, hg⟩ := hE.1.form (by omega)
  obtain ⟨x0, l, x2, a, b, d, e, f⟩ := hE.2 t hL
  refine ⟨g, cap, x0, l, x2, rfl, hg, ?_, ?_, ?_, ?_, e, f, a, b, d⟩
  · intro e0
    exact own_ne_blk hE.1 hc (by decide) (by rw [← e0]; rfl)
  · rw [hE.1.cellAt _ (by omega)]; exact a
  · rw [hE.1.cellAt _ (by omega)]; exact b
  · rw [hE.1.cellAt _ (by omega)]; exact d

theorem adv_ok (B n i L t : Nat) (st : Bool) (ea : Int) (c kb : Nat → Nat) (fH : Nat → Value) (esv : Value) (ents : List Value) (x0 x2 : Value) (l : Int) (w : World) (hin : i < n) (hn : n ≤ 100000) (ht : t ≤ 100000) (hea : ((t : Int) == ea) = false) (hL : t < L) (h : BS B n i L n st ea c kb t fH esv ents w)
    (e0 : ents[t * 3]? = some x0) (e1 : ents[t * 3 + 1]? = some (.int .i64 l)) (e2 : ents[t * 3 + 2]? = some x2) :
    Calls Yba.prog 5 #[.pointer (some ⟨B + 1 + 1, 0, none⟩), .int .i64 i] w fun e w' => ∃ fH', e = .returned (.tuple #[.bool true, .nilIface]) ∧ BS B n i L n st ea c kb ((t : Int) + 1) fH' esv ents w' ∧
      fH' (i * 4 + 1) = x0 ∧ fH' (i * 4 + 2) = .int .i64 l ∧ fH' (i * 4 + 3) = x2 ∧ Below B w w' := by
  have hlo := h.lo i hin
  obtain ⟨g, cap, y0, l', y2, rfl, hg, hgc, c0, c1, c2, r0, r2, d0, d1, d2⟩ := h.entry hin hL
  obtain rfl : x0 = y0 := by rw [e0] at d0; simpa using d0
  obtain rfl : x2 = y2 := by rw [e2] at d2; simpa using d2
  obtain rfl : l = l' := by rw [e1] at d1; simpa using d1
  refine (adv (B + 1 + 1) (B + 1) n (c i) i st x0 (.int .i64 l) x2 true _ fH w (fun w' => w'.heap[c i]? = some (.cells #[.slice (some ⟨g, 0, none⟩) L cap, .int .i64 ea, .int .i64 (t + 1)] 32 (0, 0))) hin hn h.mb h.hb ?_ (by omega) r0.form ⟨_, rfl⟩ r2.form (next_ok (c i) t L cap g ea x0 (.int .i64 l) x2 w ht hea hL (h.own hin).1 hgc hg c0 c1 c2 r0.form ⟨_, rfl⟩ r2.form)).mono ?_
  · rw [h.hd (i * 4) (by omega) (.inr (by omega)), (headV_q c kb i).1]
  · rintro e w' ⟨rfl, w1, hp, hg', rfl⟩
    obtain ⟨fH', a, b, d, f⟩ := h.adv hin hg' hp x0 (.int .i64 l) x2
    exact ⟨fH', rfl, a, b, d, f, h.advB hin hg' _ _ _⟩

theorem Yba.comp29 : (Yba.prog.info? 29).map (fun i => i.comparable) = some true := by kernel_rfl
theorem Yba.size32 : (Yba.prog.info? 32).map (fun i => i.size) = some 3 := by kernel_rfl
theorem neq_cur (c : Nat) (w : World) : (binOp .neq 37 (.iface 29 (.pointer (some ⟨c, 0, none⟩))) (.iface 29 (.pointer (some ⟨c, 0, none⟩)))).run Yba.prog w = .ok (.bool false) w := by
  obtain ⟨i, hi, hc⟩ := Option.map_eq_some_iff.1 Yba.comp29
  obtain ⟨k, hk, _⟩ := Option.map_eq_some_iff.1 Yba.size32
  simp only [binOp]
  simp [Op.equal, Op.maxDepth, run_equalIn_iface_ptr_same w 9998 ⟨c, 0, none⟩ Yba.underlying37 Yba.underlying29 hi hc hk]

/-- What the comparison's loads read. -/
def CV (B n i W : Nat) (x0 x1 x2 : Value) (w : World) : Prop :=
  w.cell? ⟨B + 1 + 1, 0, none⟩ = some (.slice (some ⟨B + 1, 0, none⟩) n n) ∧ w.cell? ⟨B + 1, i * 4 + 1, none⟩ = some x0 ∧ w.cell? ⟨B + 1, i * 4 + 2, none⟩ = some x1 ∧
  (w.cell? ⟨B + 1, i * 4 + 3, none⟩ = some x2 ∧ w.cell? ⟨W, 0, none⟩ = some x0 ∧ w.cell? ⟨W, 1, none⟩ = some x1 ∧ w.cell? ⟨W, 2, none⟩ = some x2)
theorem CV.below {B n i W : Nat} {x0 x1 x2 : Value} {w w' : World} (h : CV B n i W x0 x1 x2 w) (hb : Below w.heap.size w w') : CV B n i W x0 x1 x2 w' := by
  obtain ⟨a, b, c, d, e, f, g⟩ := h
  have q : ∀ {ad : Addr} {v : Value}, w.cell? ad = some v → w'.cell? ad = some v := fun {ad v} hv => (hb.cell (World.block_lt_of_cell? w ad hv)).trans hv
  exact ⟨q a, q b, q c, q d, q e, q f, q g⟩
theorem BS.cv {B n i L : Nat} {st : Bool} {ea kI : Int} {c kb : Nat → Nat} {fH : Nat → Value} {esv : Value} {ents : List Value} {w : World} (h : BS B n i L n st ea c kb kI fH esv ents w) (hin : i < n) {x0 x1 x2 : Value}
    (h1 : fH (i * 4 + 1) = x0) (h2 : fH (i * 4 + 2) = x1) (h3 : fH (i * 4 + 3) = x2) (t : TypeId) : CV B n i w.heap.size x0 x1 x2 (w.alloc (.cells #[x0, x1, x2] t)) := by
  have hn : (w.alloc (.cells #[x0, x1, x2] t)).heap[w.heap.size]? = some (.cells #[x0, x1, x2] t (0, 0)) := heap_alloc_new _ _
  exact ⟨two_cell0 (hp_alloc h.mb), cell_al ((h.hb.cell (by omega)).trans (by rw [h1])), cell_al ((h.hb.cell (by omega)).trans (by rw [h2])), cell_al ((h.hb.cell (by omega)).trans (by rw [h3])), three_cell0 hn, three_cell1 hn, three_cell2 hn⟩
end Go.Proofs.Ybulkclou
