/-
  A region that draws its order, reads cells early and writes those very cells late: 'x.f, x.g = append(x.f, a), append(x.g, b)'.
  The condition C on the world ('these cells hold these values') is asked behind the operations ahead of number t alone; whoever comes from t on (the stores) waits for every load. So a load may be taken first though its cell is written in the end.
-/
import Derived.Test.YbulkclouParts
import Derived.OrdersHeld
import Derived.RegionTactic
import Derived.Deep.RegionHeld
namespace Go.Proofs.Ybulkclou
open Go.RowKit

section
variable {P : Program} {ops : Array Oper} {Q : Exit → Act → World → Prop} {md : Region.Mode} {t : Nat} {C : World → Prop}

/-- Nobody from t on has come up. -/
def earlyB (t : Nat) (listed : Array Bool) : Bool := (List.range listed.size).all fun s => s < t || !listed.getD s true

theorem earlyB_spec {listed : Array Bool} : earlyB t listed = true ↔ ∀ s, s < listed.size → t ≤ s → listed.getD s true = false := by
  simp only [earlyB, List.all_eq_true, List.mem_range, Bool.or_eq_true, decide_eq_true_eq, Bool.not_eq_true']
  exact ⟨fun h s hs ht => (h s hs).resolve_left (by omega), fun h s hs => (Nat.lt_or_ge s t).imp id (h s hs)⟩

theorem earlyB_set {listed : Array Bool} {j : Nat} (h : earlyB t (listed.setIfInBounds j true) = true) (hj : j < listed.size) : earlyB t listed = true ∧ j < t := by
  rw [earlyB_spec] at h
  have hjt : j < t := by
    rcases Nat.lt_or_ge j t with h' | h'
    · exact h'
    · have := h j (by simpa using hj) h'
      simp [hj] at this
  refine ⟨earlyB_spec.2 fun s hs ht => ?_, hjt⟩
  have := h s (by simpa using hs) ht
  rwa [getD_set_ne true (by omega)] at this

theorem earlyB_keep {listed : Array Bool} {j : Nat} (h : earlyB t listed = true) (hj : j < t) : earlyB t (listed.setIfInBounds j true) = true := by
  rw [earlyB_spec] at *
  intro s hs ht
  rw [getD_set_ne true (by omega)]
  exact h s (by simpa using hs) ht

def wpLate (P : Program) (md : Region.Mode) (ops : Array Oper) (Q : Exit → Act → World → Prop) (t : Nat) (C : World → Prop) : Nat → Array Bool → Act → World → Prop
  | 0, listed, a, w => Region.ready md ops listed = [] ∧ Q .normal a w
  | fuel + 1, listed, a, w =>
    (Region.ready md ops listed = [] → Q .normal a w) ∧
    ∀ i ∈ Region.ready md ops listed, wpOp P ops Q i (fun a' w' => (earlyB t listed = true → i < t → C w') ∧ wpLate P md ops Q t C fuel (listed.setIfInBounds i true) a' w') a w

theorem wpAny_of_late : ∀ (fuel : Nat) (listed : Array Bool) (a : Act) (w : World), wpLate P md ops Q t C fuel listed a w → wpAny P md ops Q fuel listed a w
  | 0, _, _, _, h => h
  | fuel + 1, _, _, _, h => ⟨h.1, fun i hi => wpOp_mono (fun a' w' h' => wpAny_of_late fuel _ a' w' h'.2) (h.2 i hi)⟩

/-- Everybody from t on waits for i. -/
def lateWaits (md : Region.Mode) (ops : Array Oper) (t i : Nat) : Bool :=
  (List.range ops.size).all fun s => s < t || match ops[s]? with
    | some os => os.after.any fun e => Region.binds md e && e.on == i
    | none => true

theorem lateWaits_spec {i s : Nat} {os : Oper} (h : lateWaits md ops t i = true) (hs : t ≤ s) (ho : ops[s]? = some os) : ∃ e ∈ os.after, Region.binds md e = true ∧ e.on = i := by
  simp only [lateWaits, List.all_eq_true, List.mem_range] at h
  have h1 := h s (Array.getElem?_eq_some_iff.1 ho).1
  simp only [ho, Bool.or_eq_true, decide_eq_true_eq, Nat.not_lt.2 hs, false_or] at h1
  rw [Array.any_eq_true'] at h1
  obtain ⟨e, he, h2⟩ := h1
  simp only [Bool.and_eq_true, beq_iff_eq] at h2
  exact ⟨e, he, h2⟩

theorem wpLate_first {i : Nat} {oi : Oper} {v : Value} {D : World → Prop} (hi : ops[i]? = some oi) (hsel : ∀ (j : Nat) (o : Oper) cs b, ops[j]? = some o → o.op ≠ .select cs b)
    (hQ : ∀ c a w, Q (.panic c) (a.put oi.dst v) w → Q (.panic c) a w) :
    ∀ (fuel : Nat) (listed : Array Bool) (a : Act) (w : World),
      ((∀ w, D w) ∨ ((∀ w, C w → D w) ∧ lateWaits md ops t i = true ∧ earlyB t listed = true)) → (i < t ∨ earlyB t listed = false) →
      (∀ j oj, ops[j]? = some oj → j ≠ i → listed.getD j true = false → (∀ e ∈ oj.after, Region.binds md e = true → e.on ≠ i) → oi.apart ops oj = true) →
      i ∈ Region.ready md ops listed → YieldsIf P ops D oi v a → D w → (earlyB t listed = true → i < t → C w) →
      wpLate P md ops Q t C fuel (listed.setIfInBounds i true) (a.put oi.dst v) w → wpLate P md ops Q t C (fuel + 1) listed a w := by
  intro fuel
  induction fuel with
  | zero =>
    intro listed a w _ _ _ hr hy hS hC H
    refine ⟨fun h => (by rw [h] at hr; cases hr), fun j hj => ?_⟩
    by_cases hji : j = i
    · subst hji; exact hy.wpOp hi hS ⟨hC, H⟩
    · have := ready_mono hj hji
      rw [H.1] at this
      cases this
  | succ fuel ih =>
    intro listed a w hD hT hfree hr hy hS hC H
    refine ⟨fun h => (by rw [h] at hr; cases hr), fun j hj => ?_⟩
    by_cases hji : j = i
    · subst hji; exact hy.wpOp hi hS ⟨hC, H⟩
    · have h1 := H.2 j (ready_mono hj hji)
      obtain ⟨hjun, oj, hoj, hall⟩ := mem_ready.1 hj
      have hjs : j < listed.size := by
        rcases Nat.lt_or_ge j listed.size with h' | h'
        · exact h'
        · simp [Array.getElem?_eq_none h'] at hjun
      have hnot : ∀ e ∈ oj.after, Region.binds md e = true → e.on ≠ i := fun e he hb heq => by
        have h1 := hall e he hb
        have h0 := (mem_ready.1 hr).1
        rw [heq] at h1
        rcases Nat.lt_or_ge i listed.size with h' | h'
        · simp [h'] at h0 h1; rw [h0] at h1; cases h1
        · simp [Array.getElem?_eq_none h'] at h1
      have h2 := wpOp_putIf hoj (hfree j oj hoj hji hjun hnot) (fun cs b => hsel i oi cs b hi) (fun cs b => hsel j oj cs b hoj) hQ hy h1
      have hfree' : ∀ k ok, ops[k]? = some ok → k ≠ i → (listed.setIfInBounds j true).getD k true = false →
          (∀ e ∈ ok.after, Region.binds md e = true → e.on ≠ i) → oi.apart ops ok = true := fun k ok hk hki hun hno => by
        refine hfree k ok hk hki ?_ hno
        by_cases hjk : j = k
        · subst hjk; exact hjun
        · rw [getD_set_ne true hjk] at hun; exact hun
      have hCj : ∀ w', (earlyB t (listed.setIfInBounds i true) = true → j < t → C w') → (earlyB t listed = true → j < t → C w') := fun w' hc he hjt => by
        rcases hT with hT | hT
        · exact hc (earlyB_keep he hT) hjt
        · rw [hT] at he; cases he
      have hjt : lateWaits md ops t i = true → j < t := fun hw => by
        rcases Nat.lt_or_ge j t with h' | h'
        · exact h'
        · obtain ⟨e, he, hb, ho⟩ := lateWaits_spec hw h' hoj
          exact absurd ho (hnot e he hb)
      have hD' : (∀ w, D w) ∨ ((∀ w, C w → D w) ∧ lateWaits md ops t i = true ∧ earlyB t (listed.setIfInBounds j true) = true) := hD.imp id fun ⟨a, b, c⟩ => ⟨a, b, earlyB_keep c (hjt b)⟩
      have hT' : i < t ∨ earlyB t (listed.setIfInBounds j true) = false := hT.imp id fun hT => by
        cases he : earlyB t (listed.setIfInBounds j true) with
        | false => rfl
        | true => rw [(earlyB_set he hjs).1] at hT; cases hT
      refine wpOp_mono (fun a' w' h3 => ⟨hCj w' h3.2.1, ih (listed.setIfInBounds j true) a' w' hD' hT' hfree' (ready_mono hr (Ne.symm hji)) h3.1 ?_ ?_ ?_⟩) h2
      · rcases hD with hD | ⟨hD, hw, he⟩
        · exact hD w'
        · exact hD w' (hCj w' h3.2.1 he (hjt hw))
      · intro he _
        obtain ⟨e1, e2⟩ := earlyB_set he hjs
        exact hCj w' h3.2.1 e1 e2
      · rw [Array.setIfInBounds_comm _ _ hji]
        exact h3.2.2

/-- Take number i first: a load ahead of the late ones. -/
theorem late_load {i : Nat} {oi : Oper} {v : Value} {fuel : Nat} {listed : Array Bool} {a : Act} {w : World} (hi : ops[i]? = some oi)
    (hs : Region.noSelect ops = true) (hf : Region.free md ops listed i = true) (hr : (Region.ready md ops listed).contains i = true) (hw : lateWaits md ops t i = true) (he : earlyB t listed = true) (hit : i < t)
    (hQ : ∀ c a w, Q (.panic c) (a.put oi.dst v) w → Q (.panic c) a w) (hy : YieldsIf P ops C oi v a) (hS : C w)
    (h : wpLate P md ops Q t C fuel (listed.setIfInBounds i true) (a.put oi.dst v) w) : wpLate P md ops Q t C (fuel + 1) listed a w :=
  wpLate_first hi (Region.noSelect_spec hs) hQ fuel listed a w (.inr ⟨fun _ h => h, hw, he⟩) (.inl hit) (Region.free_spec hi hf) (by simpa using hr) hy hS (fun _ _ => hS) h

/-- Take number i first: it yields in whatever world. Ahead of the late ones. -/
theorem late_pure {i : Nat} {oi : Oper} {v : Value} {fuel : Nat} {listed : Array Bool} {a : Act} {w : World} (hi : ops[i]? = some oi)
    (hs : Region.noSelect ops = true) (hf : Region.free md ops listed i = true) (hr : (Region.ready md ops listed).contains i = true) (hit : i < t)
    (hQ : ∀ c a w, Q (.panic c) (a.put oi.dst v) w → Q (.panic c) a w) (hy : YieldsIf P ops (fun _ => True) oi v a) (hS : C w)
    (h : wpLate P md ops Q t C fuel (listed.setIfInBounds i true) (a.put oi.dst v) w) : wpLate P md ops Q t C (fuel + 1) listed a w :=
  wpLate_first hi (Region.noSelect_spec hs) hQ fuel listed a w (.inl fun _ => trivial) (.inl hit) (Region.free_spec hi hf) (by simpa using hr) hy trivial (fun _ _ => hS) h

/-- Only number i may come up, ahead of the late ones: it is carried out, and C is shown anew. -/
theorem late_one {i : Nat} {o : Oper} {fuel : Nat} {listed : Array Bool} {a : Act} {w : World} (hr : Region.ready md ops listed = [i]) (ho : ops[i]? = some o)
    (h : ∀ K' : Act → World → Prop, Shut (∀ a w, C w → wpLate P md ops Q t C fuel (listed.setIfInBounds i true) a w → K' a w) → if Region.wanted o (yielded ops a.tmps) = true then Oper.wp P o a w K' Q else K' (a.put o.dst undef) w) :
    wpLate P md ops Q t C (fuel + 1) listed a w := by
  refine ⟨fun h0 => absurd (hr ▸ h0) (by simp), fun j hj => ?_⟩
  rw [hr] at hj
  obtain rfl : j = i := by simpa using hj
  exact wpOp_step ho fun K' hK => h K' fun a w hC hL => hK a w ⟨fun _ _ => hC, hL⟩

/-- Two may come up. -/
theorem late_two {i j : Nat} {o o' : Oper} {fuel : Nat} {listed : Array Bool} {a : Act} {w : World} (hr : Region.ready md ops listed = [i, j]) (ho : ops[i]? = some o) (ho' : ops[j]? = some o')
    (h : ∀ K' : Act → World → Prop, Shut (∀ a w, C w → wpLate P md ops Q t C fuel (listed.setIfInBounds i true) a w → K' a w) → if Region.wanted o (yielded ops a.tmps) = true then Oper.wp P o a w K' Q else K' (a.put o.dst undef) w)
    (h' : ∀ K' : Act → World → Prop, Shut (∀ a w, C w → wpLate P md ops Q t C fuel (listed.setIfInBounds j true) a w → K' a w) → if Region.wanted o' (yielded ops a.tmps) = true then Oper.wp P o' a w K' Q else K' (a.put o'.dst undef) w) :
    wpLate P md ops Q t C (fuel + 1) listed a w := by
  refine ⟨fun h0 => absurd (hr ▸ h0) (by simp), fun k hk => ?_⟩
  rw [hr] at hk
  rcases List.mem_cons.1 hk with rfl | hk
  · exact wpOp_step ho fun K' hK => h K' fun a w hC hL => hK a w ⟨fun _ _ => hC, hL⟩
  · obtain rfl : k = j := by simpa using hk
    exact wpOp_step ho' fun K' hK => h' K' fun a w hC hL => hK a w ⟨fun _ _ => hC, hL⟩

/-- The late ones, and what is left behind them: no condition more; the plain walk over what may come up. -/
theorem late_rest {fuel : Nat} {listed : Array Bool} {a : Act} {w : World} (i : Nat) (hr : Region.ready md ops listed = [i]) (hit : t ≤ i) {o : Oper} (ho : ops[i]? = some o)
    (h : ∀ K' : Act → World → Prop, Shut (∀ a w, wpLate P md ops Q t C fuel (listed.setIfInBounds i true) a w → K' a w) → if Region.wanted o (yielded ops a.tmps) = true then Oper.wp P o a w K' Q else K' (a.put o.dst undef) w) :
    wpLate P md ops Q t C (fuel + 1) listed a w := by
  refine ⟨fun h0 => absurd (hr ▸ h0) (by simp), fun j hj => ?_⟩
  rw [hr] at hj
  obtain rfl : j = i := by simpa using hj
  exact wpOp_step ho fun K' hK => h K' fun a w hL => hK a w ⟨fun _ h' => absurd h' (by omega), hL⟩

theorem late_done {listed : Array Bool} {a : Act} {w : World} (hr : Region.ready md ops listed = []) (h : Q .normal a w) : ∀ fuel, wpLate P md ops Q t C fuel listed a w
  | 0 => ⟨hr, h⟩
  | _ + 1 => ⟨fun _ => h, by rw [hr]; simp⟩

theorem wp_region_late {id : Nat} {a : Act} {w : World} (t : Nat) (C : World → Prop) (hm : P.follows .mixedOrders = true) (hS : C w.drew)
    (h : C w.drew → wpLate P .any ops Q t C ops.size (Array.replicate ops.size false) a w.drew) : (Code.region id ops true).wp P Q a w :=
  wp_region_any hm (wpAny_of_late _ _ _ _ (h hS))
end
end Go.Proofs.Ybulkclou
