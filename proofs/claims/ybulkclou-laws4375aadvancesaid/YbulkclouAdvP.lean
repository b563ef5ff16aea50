/- What the law of advance has built, as facts on a world. -/
import Derived.Test.YbulkclouEq
namespace Go.Proofs.Ybulkclou
open Go.RowKit
set_option linter.unusedVariables false

/-- Blocks of element type T are as they were. -/
def Kp (T : TypeId) (w w' : World) : Prop := ∀ (g : Nat) (cs : Array Value), w.heap[g]? = some (.cells cs T (0, 0)) → w'.heap[g]? = some (.cells cs T (0, 0))
section
variable {T t : TypeId} {w w1 w2 : World} {X i : Nat} {cs : Array Value}
theorem kp_refl : Kp T w w := fun _ _ h => h
theorem kp_trans (h : Kp T w w1) (h2 : Kp T w1 w2) : Kp T w w2 := fun g cs hg => h2 g cs (h g cs hg)
theorem kp_below (hb : Below w.heap.size w w1) : Kp T w w1 := fun g cs h => hp_below hb h
theorem kp_alloc {o : Obj} : Kp T w (w.alloc o) := fun g cs h => hp_alloc h
theorem kp_set (hX : w.heap[X]? = some (.cells cs t (0, 0))) (hne : t ≠ T) (v : Value) : Kp T w (w.setCell ⟨X, i, none⟩ v) := fun g cs' h => hp_setOther h (by intro e; simp at e; subst e; rw [hX] at h; simp at h; exact hne h.2) v
theorem kp_grown (hg : w.grownBy w1 (some X)) (hX : w.heap[X]? = some (.cells cs t (0, 0))) (hne : t ≠ T) : Kp T w w1 := fun g cs' h => hp_grown hg (by intro e; simp at e; subst e; rw [hX] at h; simp at h; exact hne h.2) h
end

def headV (c kb : Nat → Nat) (q : Nat) : Value :=
  if q % 4 = 0 then .iface 29 (.pointer (some ⟨c (q / 4), 0, none⟩)) else if q % 4 = 1 then .slice (some ⟨kb (q / 4), 0, none⟩) 1 1 else if q % 4 = 2 then .int .i64 (-((q / 4 : Nat) : Int)) else nilS

def RdRow (w : World) (x : Value) : Prop := ∃ (g m cap : Nat) (xs : List Int), x = .slice (some ⟨g, 0, none⟩) m cap ∧ xs.length = m ∧ w.heap[g]? = some (.cells (xs.map (Value.int .u8)).toArray 5 (0, 0))
theorem RdRow.kp {w w' : World} {x : Value} (h : RdRow w x) (hk : Kp 5 w w') : RdRow w' x := by
  obtain ⟨g, m, cap, xs, e, hm, hh⟩ := h
  exact ⟨g, m, cap, xs, e, hm, hk g _ hh⟩
theorem RdRow.reads {w : World} {x : Value} (h : RdRow w x) : ∃ s, ∀ w', Kp 5 w w' → Reads w' x s := by
  obtain ⟨g, m, cap, xs, rfl, hm, hh⟩ := h
  exact ⟨_, fun w' hk => reads_row w' g m cap xs hm (hk g _ hh)⟩
theorem RdRow.form {w : World} {x : Value} (h : RdRow w x) : ∃ a n k, x = .slice a n k := by
  obtain ⟨g, m, cap, xs, rfl, _⟩ := h
  exact ⟨_, _, _, rfl⟩

def Ents (b L : Nat) (esv : Value) (ents : List Value) (w : World) : Prop :=
  w.ownsRow b 35 3 esv L ents ∧ ∀ t, t < L → ∃ x0 l x2, ents[t * 3]? = some x0 ∧ ents[t * 3 + 1]? = some (.int .i64 l) ∧ ents[t * 3 + 2]? = some x2 ∧ RdRow w x0 ∧ RdRow w x2
theorem ow_kp {w w' : World} {b e s n : Nat} {v : Value} {xs : List Value} (h : w.ownsRow b e s v n xs) (hk : Kp e w w') : w'.ownsRow b e s v n xs := by
  refine ⟨h.1, ?_⟩
  rcases h.2 with h' | ⟨g, cap, cur, h1, h2, h3, h4⟩
  · exact .inl h'
  · exact .inr ⟨g, cap, cur, h1, h2, hk g _ h3, h4⟩
theorem Ents.kp {b L : Nat} {esv : Value} {ents : List Value} {w w' : World} (h : Ents b L esv ents w) (h35 : Kp 35 w w') (h5 : Kp 5 w w') : Ents b L esv ents w' :=
  ⟨ow_kp h.1 h35, fun t ht => by
    obtain ⟨x0, l, x2, a, b', d, e, f⟩ := h.2 t ht
    exact ⟨x0, l, x2, a, b', d, e.kp h5, f.kp h5⟩⟩

structure BS (B n i L j : Nat) (st : Bool) (ea : Int) (c kb : Nat → Nat) (kI : Int) (fH : Nat → Value) (esv : Value) (ents : List Value) (w : World) : Prop where
  cb : w.rowIs B 29 n (fun t => if t < j then .pointer (some ⟨c t, 0, none⟩) else .pointer none)
  hb : w.rowIs (B + 1) 39 (n * 4) fH
  mb : w.heap[B + 2]? = some (.cells #[.slice (some ⟨B + 1, 0, none⟩) n n, .bool st] 28 (0, 0))
  lo : ∀ t, t < j → B + 3 ≤ c t
  inj : ∀ s t, s < j → t < j → s ≠ t → c s ≠ c t
  oth : ∀ t, t < j → t ≠ i → ∃ es, w.heap[c t]? = some (.cells #[es, .int .i64 (-1), .int .i64 0] 32 (0, 0))
  key : ∀ t, t < j → w.heap[kb t]? = some (.cells #[.int .u8 109] 5 (0, 0))
  own : i < j → w.heap[c i]? = some (.cells #[esv, .int .i64 ea, .int .i64 kI] 32 (0, 0)) ∧ Ents (B + 3) L esv ents w
  hd : ∀ q, q / 4 < j → (q / 4 ≠ i ∨ q % 4 = 0) → fH q = headV c kb q

section
variable {B n i L j : Nat} {st : Bool} {ea kI : Int} {c kb : Nat → Nat} {fH : Nat → Value} {esv : Value} {ents : List Value} {w w' : World}
theorem BS.below (h : BS B n i L j st ea c kb kI fH esv ents w) (hb : Below w.heap.size w w') : BS B n i L j st ea c kb kI fH esv ents w' :=
  ⟨h.cb.of_block (hb.block _ h.cb.lt), h.hb.of_block (hb.block _ h.hb.lt), hp_below hb h.mb, h.lo, h.inj, fun t ht hi => by
    obtain ⟨es, e⟩ := h.oth t ht hi
    exact ⟨es, hp_below hb e⟩, fun t ht => hp_below hb (h.key t ht), fun hij => ⟨hp_below hb (h.own hij).1, (h.own hij).2.kp (kp_below hb) (kp_below hb)⟩, h.hd⟩

theorem BS.cltAll (h : BS B n i L j st ea c kb kI fH esv ents w) (t : Nat) (ht : t < j) : c t < w.heap.size := by
  by_cases e : t = i
  · subst e; exact lt_of_block (h.own ht).1
  · obtain ⟨es, e1⟩ := h.oth t ht e
    exact lt_of_block e1
theorem BS.lt (h : BS B n i L j st ea c kb kI fH esv ents w) : B + 2 < w.heap.size := lt_of_block h.mb

/-- The i-th cursor's own block has turned. -/
theorem BS.atC (h : BS B n i L j st ea c kb kI fH esv ents w) (hij : i < j) (hg : w.grownBy w' (some (c i))) {k' : Int} (hn : w'.heap[c i]? = some (.cells #[esv, .int .i64 ea, .int .i64 k'] 32 (0, 0))) : BS B n i L j st ea c kb k' fH esv ents w' := by
  have hlo := h.lo i hij
  have hci := (h.own hij).1
  have q : ∀ {k : Nat}, k ≠ c i → some k ≠ some (c i) := fun hk e => hk (by simpa using e)
  refine ⟨h.cb.of_block (hg.block _ h.cb.lt (q (by omega))), h.hb.of_block (hg.block _ h.hb.lt (q (by omega))), hp_grown hg (Ne.symm (q (by omega))) h.mb, h.lo, h.inj, fun t ht hi => ?_, fun t ht => (kp_grown hg hci (by decide) : Kp 5 w w') _ _ (h.key t ht), fun _ => ⟨hn, (h.own hij).2.kp (kp_grown hg hci (by decide)) (kp_grown hg hci (by decide))⟩, h.hd⟩
  obtain ⟨es, e⟩ := h.oth t ht hi
  exact ⟨es, hp_grown hg (Ne.symm (q (h.inj t i ht hij hi))) e⟩

/-- A cell of the i-th head's entry is stored. -/
theorem BS.atH (h : BS B n i L j st ea c kb kI fH esv ents w) (p : Nat) (v : Value) (hp : p / 4 = i) (hp0 : p % 4 ≠ 0) : BS B n i L j st ea c kb kI (fun q => if q = p then v else fH q) esv ents (w.setCell ⟨B + 1, p, none⟩ v) := by
  obtain ⟨cur, hcur, _⟩ := h.hb
  have k5 : Kp 5 w (w.setCell ⟨B + 1, p, none⟩ v) := kp_set hcur (by decide) v
  have k35 : Kp 35 w (w.setCell ⟨B + 1, p, none⟩ v) := kp_set hcur (by decide) v
  have k32 : Kp 32 w (w.setCell ⟨B + 1, p, none⟩ v) := kp_set hcur (by decide) v
  refine ⟨h.cb.setOther (by simp) v, h.hb.set p v, hp_setOther h.mb (by simp) v, h.lo, h.inj, fun t ht hi => ?_, fun t ht => k5 _ _ (h.key t ht), fun hij => ⟨k32 _ _ (h.own hij).1, (h.own hij).2.kp k35 k5⟩, fun q hq hqi => ?_⟩
  · obtain ⟨es, e⟩ := h.oth t ht hi
    exact ⟨es, k32 _ _ e⟩
  · rw [if_neg (by rintro rfl; omega)]
    exact h.hd q hq hqi
end

/-- The stores at a cursor's end: curs[j] = c; m.heads[j] = head{..}. -/
def S5 (B j cN kN : Nat) (w : World) : World :=
  ((((w.setCell ⟨B, j, none⟩ (.pointer (some ⟨cN, 0, none⟩))).setCell ⟨B + 1, j * 4, none⟩ (.iface 29 (.pointer (some ⟨cN, 0, none⟩)))).setCell ⟨B + 1, j * 4 + 1, none⟩ (.slice (some ⟨kN, 0, none⟩) 1 1)).setCell ⟨B + 1, j * 4 + 2, none⟩ (.int .i64 (-(j : Int)))).setCell ⟨B + 1, j * 4 + 3, none⟩ nilS

theorem S5_size (B j cN kN : Nat) (w : World) : (S5 B j cN kN w).heap.size = w.heap.size := by simp [S5, World.setCell]
theorem S5_below {B j cN kN : Nat} {a w : World} (h : Below B a w) : Below B a (S5 B j cN kN w) :=
  ((((h.setCell (Nat.le_refl _) _).setCell (Nat.le_succ _) _).setCell (Nat.le_succ _) _).setCell (Nat.le_succ _) _).setCell (Nat.le_succ _) _
theorem headV_q (c kb : Nat → Nat) (j : Nat) : headV c kb (j * 4) = .iface 29 (.pointer (some ⟨c j, 0, none⟩)) ∧ headV c kb (j * 4 + 1) = .slice (some ⟨kb j, 0, none⟩) 1 1 ∧ headV c kb (j * 4 + 2) = .int .i64 (-(j : Int)) ∧ headV c kb (j * 4 + 3) = nilS := by
  have d0 : j * 4 / 4 = j := by omega
  have d1 : (j * 4 + 1) / 4 = j := by omega
  have d2 : (j * 4 + 2) / 4 = j := by omega
  have m0 : j * 4 % 4 = 0 := by omega
  have m1 : (j * 4 + 1) % 4 = 1 := by omega
  have m2 : (j * 4 + 2) % 4 = 2 := by omega
  have m3 : (j * 4 + 3) % 4 = 3 := by omega
  unfold headV
  rw [d0, d1, d2, m0, m1, m2, m3]
  simp

theorem BS.s5kp {B n i L j j0 : Nat} {st : Bool} {ea kI : Int} {c kb : Nat → Nat} {fH : Nat → Value} {esv : Value} {ents : List Value} {w : World} (h : BS B n i L j0 st ea c kb kI fH esv ents w) (cN kN : Nat) (T : TypeId) (h29 : T ≠ 29) (h39 : T ≠ 39) : Kp T w (S5 B j cN kN w) := by
  obtain ⟨cur, hcur, _⟩ := h.cb
  have a1 : Kp T w _ := kp_set (i := j) hcur (Ne.symm h29) (.pointer (some ⟨cN, 0, none⟩))
  obtain ⟨d1, e1, _⟩ := h.hb.setOther (a := ⟨B, j, none⟩) (by simp) (.pointer (some ⟨cN, 0, none⟩))
  have r1 := h.hb.setOther (a := ⟨B, j, none⟩) (by simp) (.pointer (some ⟨cN, 0, none⟩))
  have a2 := kp_trans a1 (kp_set (i := j * 4) e1 (Ne.symm h39) (.iface 29 (.pointer (some ⟨cN, 0, none⟩))))
  have r2 := r1.set (j * 4) (.iface 29 (.pointer (some ⟨cN, 0, none⟩)))
  have r2c := r2
  obtain ⟨d2, e2, _⟩ := r2c
  have a3 := kp_trans a2 (kp_set (i := j * 4 + 1) e2 (Ne.symm h39) (.slice (some ⟨kN, 0, none⟩) 1 1))
  have r3 := r2.set (j * 4 + 1) (.slice (some ⟨kN, 0, none⟩) 1 1)
  have r3c := r3
  obtain ⟨d3, e3, _⟩ := r3c
  have a4 := kp_trans a3 (kp_set (i := j * 4 + 2) e3 (Ne.symm h39) (.int .i64 (-(j : Int))))
  have r4 := r3.set (j * 4 + 2) (.int .i64 (-(j : Int)))
  have r4c := r4
  obtain ⟨d4, e4, _⟩ := r4c
  exact kp_trans a4 (kp_set (i := j * 4 + 3) e4 (Ne.symm h39) nilS)

theorem BS.next {B n i L j : Nat} {st : Bool} {ea e' : Int} {c kb : Nat → Nat} {fH : Nat → Value} {esv es' : Value} {ents ents' : List Value} {w W : World} (h : BS B n i L j st ea c kb 0 fH esv ents w) (hj : j < n) (cN kN : Nat)
    (hcN : ∀ t, t < j → c t ≠ cN) (hc3 : B + 3 ≤ cN) (hW : Below w.heap.size (S5 B j cN kN w) W) (hc : W.heap[cN]? = some (.cells #[es', .int .i64 e', .int .i64 0] 32 (0, 0))) (hk : W.heap[kN]? = some (.cells #[.int .u8 109] 5 (0, 0)))
    (hcase : (j ≠ i ∧ e' = -1) ∨ (j = i ∧ e' = ea ∧ Ents (B + 3) L es' ents' W)) : ∃ c kb fH esv ents, BS B n i L (j + 1) st ea c kb 0 fH esv ents W := by
  have ktr : ∀ T : TypeId, T ≠ 29 → T ≠ 39 → Kp T w W := by
    intro T h29 h39
    refine kp_trans (h.s5kp (j := j) cN kN T h29 h39) (kp_below ?_)
    rw [S5_size]; exact hW
  have kb5 := ktr 5 (by decide) (by decide)
  have kb35 := ktr 35 (by decide) (by decide)
  have kb32 := ktr 32 (by decide) (by decide)
  have hlt := h.lt
  refine ⟨fun t => if t = j then cN else c t, fun t => if t = j then kN else kb t, fun q => if q = j * 4 + 3 then nilS else if q = j * 4 + 2 then .int .i64 (-(j : Int)) else if q = j * 4 + 1 then .slice (some ⟨kN, 0, none⟩) 1 1 else if q = j * 4 then .iface 29 (.pointer (some ⟨cN, 0, none⟩)) else fH q,
    if j = i then es' else esv, if j = i then ents' else ents, ?_⟩
  refine ⟨?_, ?_, ?_, ?_, ?_, ?_, ?_, ?_, ?_⟩
  · have r := ((((h.cb.set j (.pointer (some ⟨cN, 0, none⟩))).setOther (a := ⟨B + 1, j * 4, none⟩) (by simp) (.iface 29 (.pointer (some ⟨cN, 0, none⟩)))).setOther (a := ⟨B + 1, j * 4 + 1, none⟩) (by simp) (.slice (some ⟨kN, 0, none⟩) 1 1)).setOther (a := ⟨B + 1, j * 4 + 2, none⟩) (by simp) (.int .i64 (-(j : Int)))).setOther (a := ⟨B + 1, j * 4 + 3, none⟩) (by simp) nilS
    refine World.rowIs.congr (World.rowIs.of_block (w := S5 B j cN kN w) r (hW.block B (by omega))) (fun t ht => ?_)
    by_cases e : t = j
    · simp [e]
    · by_cases e2 : t < j
      · simp [e, e2, Nat.lt_succ_of_lt e2]
      · simp [e, e2]; omega
  · have r := ((((h.hb.setOther (a := ⟨B, j, none⟩) (by simp) (.pointer (some ⟨cN, 0, none⟩))).set (j * 4) (.iface 29 (.pointer (some ⟨cN, 0, none⟩)))).set (j * 4 + 1) (.slice (some ⟨kN, 0, none⟩) 1 1)).set (j * 4 + 2) (.int .i64 (-(j : Int)))).set (j * 4 + 3) nilS
    exact World.rowIs.of_block (w := S5 B j cN kN w) r (hW.block (B + 1) (by omega))
  · have r := hp_setOther (hp_setOther (hp_setOther (hp_setOther (hp_setOther h.mb (a := ⟨B, j, none⟩) (by simp) (.pointer (some ⟨cN, 0, none⟩))) (a := ⟨B + 1, j * 4, none⟩) (by simp) (.iface 29 (.pointer (some ⟨cN, 0, none⟩)))) (a := ⟨B + 1, j * 4 + 1, none⟩) (by simp) (.slice (some ⟨kN, 0, none⟩) 1 1)) (a := ⟨B + 1, j * 4 + 2, none⟩) (by simp) (.int .i64 (-(j : Int)))) (a := ⟨B + 1, j * 4 + 3, none⟩) (by simp) nilS
    exact (hW.block (B + 2) (by omega)).trans r
  · intro t ht
    by_cases e : t = j
    · simp [e]; exact hc3
    · simp [e]; exact h.lo t (by omega)
  · intro s t hs ht hst
    by_cases e : s = j
    · have e2 : t ≠ j := fun x => hst (e.trans x.symm)
      simp [e, e2]; exact Ne.symm (hcN t (by omega))
    · by_cases e2 : t = j
      · simp [e, e2]; exact hcN s (by omega)
      · simp [e, e2]; exact h.inj s t (by omega) (by omega) hst
  · intro t ht hti
    by_cases e : t = j
    · subst e
      rcases hcase with ⟨_, rfl⟩ | ⟨h1, _⟩
      · exact ⟨es', by simpa using hc⟩
      · exact absurd h1 hti
    · obtain ⟨es, h1⟩ := h.oth t (by omega) hti
      exact ⟨es, by simpa [e] using kb32 _ _ h1⟩
  · intro t ht
    by_cases e : t = j
    · subst e; simpa using hk
    · simpa [e] using kb5 _ _ (h.key t (by omega))
  · intro hi
    by_cases e : j = i
    · subst e
      rcases hcase with ⟨h1, _⟩ | ⟨_, rfl, h2⟩
      · exact absurd rfl h1
      · exact ⟨by simpa using hc, by simpa using h2⟩
    · have e2 : i ≠ j := Ne.symm e
      obtain ⟨h1, h2⟩ := h.own (by omega)
      exact ⟨by simpa [e, e2] using kb32 _ _ h1, by simpa [e] using h2.kp kb35 kb5⟩
  · intro q hq hqi
    obtain ⟨v0, v1, v2, v3⟩ := headV_q (fun t => if t = j then cN else c t) (fun t => if t = j then kN else kb t) j
    by_cases e : q / 4 = j
    · have : q = j * 4 ∨ q = j * 4 + 1 ∨ q = j * 4 + 2 ∨ q = j * 4 + 3 := by omega
      rcases this with rfl | rfl | rfl | rfl
      · rw [v0]; simp
      · rw [v1]; simp
      · rw [v2]; simp
      · rw [v3]; simp
    · have n0 : q ≠ j * 4 := by omega
      have n1 : q ≠ j * 4 + 1 := by omega
      have n2 : q ≠ j * 4 + 2 := by omega
      have n3 : q ≠ j * 4 + 3 := by omega
      simp only [n0, n1, n2, n3, if_false]
      rw [h.hd q (by omega) hqi]
      unfold headV
      simp [e]

/-! ### The inner loop: the i-th cursor's entries -/
def CZ (c b o : Nat) (es : Value) (z : Int) (w : World) : Prop := w.cell? ⟨c, 0, none⟩ = some es ∧ w.cell? ⟨b, o, none⟩ = some (.int .i64 z) ∧ w.frozen? ⟨c, 0, none⟩ = false ∧ True
theorem CZ_of {c b o : Nat} {es e1 e2 : Value} {z : Int} {t : TypeId} {w : World} (h : w.heap[c]? = some (.cells #[es, e1, e2] t (0, 0))) (hz : w.cell? ⟨b, o, none⟩ = some (.int .i64 z)) : CZ c b o es z w := ⟨three_cell0 h, hz, three_free h, trivial⟩
theorem cell_al {w : World} {a : Addr} {v : Value} {o : Obj} (h : w.cell? a = some v) : (w.alloc o).cell? a = some v := (World.cell?_of_block (Below.heap_alloc w o a.block (World.block_lt_of_cell? w a h))).trans h
theorem cell_gr {w w1 : World} {a : Addr} {v : Value} {row : Option Nat} (hg : w.grownBy w1 row) (hne : row ≠ some a.block) (h : w.cell? a = some v) : w1.cell? a = some v := hg.cell h (Ne.symm hne)
theorem kp_own {T b e s n : Nat} {v : Value} {xs : List Value} {w w1 : World} (h : w.ownsRow b e s v n xs) (hg : w.grownBy w1 v.ownBlock) (hne : e ≠ T) : Kp T w w1 := by
  rcases h.2 with ⟨rfl, _⟩ | ⟨g, cap, cur, rfl, _, hh, _⟩
  · exact fun g cs hgc => hp_grown hg (by simp [Value.ownBlock]) hgc
  · exact kp_grown hg hh hne
theorem own_ne_blk {b e s n X t : Nat} {v : Value} {xs : List Value} {cs : Array Value} {w : World} (h : w.ownsRow b e s v n xs) (hX : w.heap[X]? = some (.cells cs t (0, 0))) (hne : e ≠ t) : v.ownBlock ≠ some X := by
  rcases h.2 with ⟨rfl, _⟩ | ⟨g, cap, cur, rfl, _, hh, _⟩
  · simp [Value.ownBlock]
  · simp only [Value.ownBlock, ne_eq, Option.some.injEq]
    intro e0; subst e0
    rw [hh] at hX; simp at hX; exact hne hX.2
theorem own_base {b b' e s n : Nat} {v : Value} {xs : List Value} {w : World} (h : w.ownsRow b e s v n xs) (hb : b' ≤ b) : w.ownsRow b' e s v n xs :=
  ⟨h.1, h.2.imp id fun ⟨g, cap, cur, h1, h2, h3⟩ => ⟨g, cap, cur, h1, Nat.le_trans hb h2, h3⟩⟩

theorem inner_next {wo wr w1 : World} {o1 o2 o3 : Obj} {t L ka va g1 cap1 : Nat} {ea z kx vx : Int} {esv : Value} {ents : List Value}
    (hbq : Below wo.heap.size wo wr) (hlt : t < L) (hE : Ents (wo.heap.size + 1) t esv ents wr) (hC : wr.heap[wo.heap.size]? = some (.cells #[esv, .int .i64 ea, .int .i64 0] 32 (0, 0)))
    (hgr : (((wr.alloc o1).alloc o2).alloc o3).drew.grownBy w1 esv.ownBlock) (hC4 : w1.heap[wo.heap.size]? = some (.cells #[esv, .int .i64 ea, .int .i64 0] 32 (0, 0)))
    (how : w1.ownsRow (wo.heap.size + 1) 35 3 (.slice (some ⟨g1, 0, none⟩) (t + 1) cap1) (t + 1) (ents ++ [.slice (some ⟨ka, 0, none⟩) 1 1, .int .i64 z, .slice (some ⟨va, 0, none⟩) 2 2]))
    (hk : (((wr.alloc o1).alloc o2).alloc o3).drew.heap[ka]? = some (.cells #[.int .u8 kx] 5 (0, 0))) (hv : (((wr.alloc o1).alloc o2).alloc o3).drew.heap[va]? = some (.cells #[.int .u8 vx, .int .u8 1] 5 (0, 0))) :
    ∃ t' : Nat, t' ≤ L ∧ Value.int .i64 ((t : Int) + 1) = .int .i64 t' ∧ (∃ esv ents, (w1.setCell ⟨wo.heap.size, 0, none⟩ (.slice (some ⟨g1, 0, none⟩) (t + 1) cap1)).heap[wo.heap.size]? = some (.cells #[esv, .int .i64 ea, .int .i64 0] 32 (0, 0)) ∧
      Ents (wo.heap.size + 1) t' esv ents (w1.setCell ⟨wo.heap.size, 0, none⟩ (.slice (some ⟨g1, 0, none⟩) (t + 1) cap1))) ∧ Below wo.heap.size wo (w1.setCell ⟨wo.heap.size, 0, none⟩ (.slice (some ⟨g1, 0, none⟩) (t + 1) cap1)) := by
  have hU := (((hE.1.alloc o1).alloc o2).alloc o3).drew
  have k5 : Kp 5 _ w1 := kp_own hU hgr (by decide)
  have k5s : Kp 5 w1 (w1.setCell ⟨wo.heap.size, 0, none⟩ (.slice (some ⟨g1, 0, none⟩) (t + 1) cap1)) := kp_set hC4 (by decide) _
  have k35s : Kp 35 w1 (w1.setCell ⟨wo.heap.size, 0, none⟩ (.slice (some ⟨g1, 0, none⟩) (t + 1) cap1)) := kp_set hC4 (by decide) _
  have k5w : Kp 5 wr (((wr.alloc o1).alloc o2).alloc o3).drew := fun g cs h => hp_drew (hp_alloc (hp_alloc (hp_alloc h)))
  have hl : wo.heap.size < wr.heap.size := lt_of_block hC
  have hel : ents.length = t * 3 := hE.1.1
  refine ⟨t + 1, by omega, by simp, ⟨_, _, three_set0 hC4 _, ow_kp how k35s, ?_⟩, ?_⟩
  · intro s hs
    by_cases h : s < t
    · obtain ⟨x0, l, x2, a, b, d, e, f⟩ := hE.2 s h
      refine ⟨x0, l, x2, ?_, ?_, ?_, (((e.kp k5w).kp k5).kp k5s), (((f.kp k5w).kp k5).kp k5s)⟩
      · rw [List.getElem?_append_left (by omega)]; exact a
      · rw [List.getElem?_append_left (by omega)]; exact b
      · rw [List.getElem?_append_left (by omega)]; exact d
    · obtain rfl : s = t := by omega
      refine ⟨_, z, _, ?_, ?_, ?_, ⟨ka, 1, 1, [kx], rfl, rfl, k5s _ _ (k5 _ _ hk)⟩, ⟨va, 2, 2, [vx, 1], rfl, rfl, k5s _ _ (k5 _ _ hv)⟩⟩
      · rw [List.getElem?_append_right (by omega), hel, Nat.sub_self]; rfl
      · rw [List.getElem?_append_right (by omega), hel, Nat.add_sub_cancel_left]; rfl
      · rw [List.getElem?_append_right (by omega), hel, Nat.add_sub_cancel_left]; rfl
  · refine Below.setCell (p := ⟨wo.heap.size, 0, none⟩) ?_ (Nat.le_refl wo.heap.size) _
    refine Below.grown ((((hbq.alloc (by omega) o1).alloc (by simp; omega) o2).alloc (by simp; omega) o3).drew) hgr ?_ ?_
    · show wo.heap.size ≤ (((wr.alloc o1).alloc o2).alloc o3).heap.size
      simp; omega
    · intro k hk'
      have := (hE.1.lt k hk').1
      omega
end Go.Proofs.Ybulkclou
