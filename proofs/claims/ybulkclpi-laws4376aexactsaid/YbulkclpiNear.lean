import Derived.Test.YbulkclpiRows
import Derived.Test.YbulkclpiLate
import Derived.Test.YbulkclpiFns
import Derived.WalkKit
import Derived.WalkSmall
import Derived.WalkLawsBesides
import Derived.Deep.QuietTactic
import Derived.BigQuiet
namespace Go.Proofs.Ybulkclpi
open Go.RowKit
set_option linter.unusedVariables false
set_option linter.unusedSimpArgs false

theorem ret_int {k : IntKind} {a b : Int} (h : a = b) : Ending.returned (.int k a) = .returned (.int k b) := by rw [h]

/-- What nearestMiddle reads: its three boxes, and the cuts. -/
def CN (C LO NB g m cap lo : Nat) (n : Int) (f : Nat → Int) (w : World) : Prop :=
  w.cell? ⟨C, 0, none⟩ = some (.slice (some ⟨g, 0, none⟩) m cap) ∧ w.cell? ⟨LO, 0, none⟩ = some (.int .i64 lo) ∧ w.cell? ⟨NB, 0, none⟩ = some (.int .i64 n) ∧ ∀ t, t < m → w.cell? ⟨g, t, none⟩ = some (.int .i64 (f t))
theorem CN.below {C LO NB g m cap lo : Nat} {n : Int} {f : Nat → Int} {w w' : World} (h : CN C LO NB g m cap lo n f w) (hb : Below w.heap.size w w') : CN C LO NB g m cap lo n f w' := by
  have q : ∀ {ad : Addr} {v : Value}, w.cell? ad = some v → w'.cell? ad = some v := fun {ad v} hv => (hb.cell (World.block_lt_of_cell? w ad hv)).trans hv
  exact ⟨q h.1, q h.2.1, q h.2.2.1, fun t ht => q (h.2.2.2 t ht)⟩

/-- The place that nearestMiddle takes: s the first place of the window (or its end) whose cut is not below. -/
def nm (f : Nat → Int) (lo hi : Nat) (n : Int) (s : Nat) : Nat := if s = hi ∨ (lo < s ∧ n - 2 * f (s - 1) ≤ 2 * f s - n) then s - 1 else s

set_option maxHeartbeats 1000000 in
theorem near_any (g m cap lo hi : Nat) (n : Int) (f : Nat → Int) (w : World) (hm : m ≤ 100000) (hlo : lo < hi) (hhi : hi ≤ m) (hn : -10000000000 ≤ n ∧ n ≤ 10000000000) (hf : ∀ t, -1000000000 ≤ f t ∧ f t ≤ 1000000000) (hmono : ∀ s t, s ≤ t → f s ≤ f t)
    (hg : ∀ t, t < m → w.cell? ⟨g, t, none⟩ = some (.int .i64 (f t))) :
    Calls Yba.prog 7 #[.slice (some ⟨g, 0, none⟩) m cap, .int .i64 lo, .int .i64 hi, .int .i64 n] w fun e w' =>
      ∃ s : Nat, lo ≤ s ∧ s ≤ hi ∧ (∀ t, lo ≤ t → t < s → 2 * f t < n) ∧ (∀ t, s ≤ t → t < hi → n ≤ 2 * f t) ∧ e = .returned (.int .i64 (nm f lo hi n s)) ∧ Below w.heap.size w w' := by
  have hgl : g < w.heap.size := World.block_lt_of_cell? w _ (hg 0 (by omega))
  have HCN : Hid (CN w.heap.size (w.heap.size + 1) (w.heap.size + 1 + 1) g m cap lo n f (((w.alloc (.cells #[.slice (some ⟨g, 0, none⟩) m cap] 24)).alloc (.cells #[.int .i64 lo] 3)).alloc (.cells #[.int .i64 n] 3))) := by
    refine ⟨by simp [go_sem], by simp [go_sem], by simp [go_sem], fun t ht => ?_⟩
    exact (Below.cell (B := w.heap.size) ((((Below.refl _ w).alloc (Nat.le_refl _) _).alloc (by simp) _).alloc (by simp; omega) _) (by exact hgl)).trans (hg t ht)
  have HM : Hid (∀ s t, s ≤ t → f s ≤ f t) := hmono
  have HF : Hid (∀ t, -1000000000 ≤ f t ∧ f t ≤ 1000000000) := hf
  have hsub : (hi : Int) - (lo : Int) = ((hi - lo : Nat) : Int) := by omega
  have hws : IntKind.i64.wrap ((hi - lo : Nat) : Int) = ((hi - lo : Nat) : Int) := by rw [IntKind.wrap_i64]; omega
  have HG : Hid (∀ t, t < m → w.cell? ⟨g, t, none⟩ = some (.int .i64 (f t))) := hg
  clear hg hmono hf
  go_enter Yba.func7, Yba.ntmps7
  go_wp2
  refine wp_region_late 8 (CN w.heap.size (w.heap.size + 1) (w.heap.size + 1 + 1) g m cap lo n f) (by kernel_rfl) (HCN.out.below (Below.refl _ _).drew) (fun hC => ?_)
  refine late_load (i := 0) (v := ?qv501) (oi := ?qo501) ?qh501 (by kernel_rfl) (by kernel_rfl) (by kernel_rfl) (by kernel_rfl) (by kernel_rfl) (by decide) ?qq501 (Or.inl ⟨?qw501, ?qy501⟩) (by assumption) ?qr501
  case qh501 => (simp only [List.getElem?_toArray, List.getElem?_cons_succ, List.getElem?_cons_zero]; exact rfl)
  case qq501 => exact fun _ _ _ h => h
  case qw501 => rfl
  case qy501 => (intro wx hSw; (try dsimp only at hSw); obtain ⟨s1, s2, s3, s4⟩ := hSw; go_simp; try with_reducible rfl)
  try simp only [Act.put, List.setIfInBounds_toArray, List.set_cons_zero, List.set_cons_succ]
  refine late_pure (i := 1) (v := ?qv502) (oi := ?qo502) ?qh502 (by kernel_rfl) (by kernel_rfl) (by kernel_rfl) (by decide) ?qq502 (Or.inl ⟨?qw502, ?qy502⟩) (by assumption) ?qr502
  case qh502 => (simp only [List.getElem?_toArray, List.getElem?_cons_succ, List.getElem?_cons_zero]; exact rfl)
  case qq502 => exact fun _ _ _ h => h
  case qw502 => rfl
  case qy502 => (intro wx _; go_simp; try with_reducible rfl)
  try simp only [Act.put, List.setIfInBounds_toArray, List.set_cons_zero, List.set_cons_succ]
  refine late_load (i := 2) (v := ?qv503) (oi := ?qo503) ?qh503 (by kernel_rfl) (by kernel_rfl) (by kernel_rfl) (by kernel_rfl) (by kernel_rfl) (by decide) ?qq503 (Or.inl ⟨?qw503, ?qy503⟩) (by assumption) ?qr503
  case qh503 => (simp only [List.getElem?_toArray, List.getElem?_cons_succ, List.getElem?_cons_zero]; exact rfl)
  case qq503 => exact fun _ _ _ h => h
  case qw503 => rfl
  case qy503 => (intro wx hSw; (try dsimp only at hSw); obtain ⟨s1, s2, s3, s4⟩ := hSw; go_simp; try with_reducible rfl)
  try simp only [Act.put, List.setIfInBounds_toArray, List.set_cons_zero, List.set_cons_succ]
  refine late_pure (i := 3) (v := ?qv504) (oi := ?qo504) ?qh504 (by kernel_rfl) (by kernel_rfl) (by kernel_rfl) (by decide) ?qq504 (Or.inl ⟨?qw504, ?qy504⟩) (by assumption) ?qr504
  case qh504 => (simp only [List.getElem?_toArray, List.getElem?_cons_succ, List.getElem?_cons_zero]; exact rfl)
  case qq504 => exact fun _ _ _ h => h
  case qw504 => rfl
  case qy504 => (intro wx _; go_simp; try with_reducible rfl)
  try simp only [Act.put, List.setIfInBounds_toArray, List.set_cons_zero, List.set_cons_succ]
  refine late_pure (i := 4) (v := ?qv505) (oi := ?qo505) ?qh505 (by kernel_rfl) (by kernel_rfl) (by kernel_rfl) (by decide) ?qq505 (Or.inl ⟨?qw505, ?qy505⟩) (by assumption) ?qr505
  case qh505 => (simp only [List.getElem?_toArray, List.getElem?_cons_succ, List.getElem?_cons_zero]; exact rfl)
  case qq505 => exact fun _ _ _ h => h
  case qw505 => rfl
  case qy505 => (intro wx _; go_simp; try with_reducible rfl)
  try simp only [Act.put, List.setIfInBounds_toArray, List.set_cons_zero, List.set_cons_succ]
  refine late_one (i := 5) (o := ?qo506) (by kernel_rfl) ?qh506 (fun K hK => ?qr506)
  case qh506 => (simp only [List.getElem?_toArray, List.getElem?_cons_succ, List.getElem?_cons_zero]; exact rfl)
  go_simp
  refine (search_any w.heap.size (w.heap.size + 1) (w.heap.size + 1 + 1) g m cap lo (hi - lo) n f _ hm (by omega) HF.out HM.out hC.1 hC.2.1 hC.2.2.1 hC.2.2.2).mono ?_
  rintro e w1 ⟨s, hsN, hs1, hs2, rfl, k, rfl⟩
  dsimp only
  have hC5 := hC.below (below_drewN (Below.refl _ _) k)
  refine hK.out _ _ hC5 ?_
  clear hK K
  try simp only [Act.put, List.setIfInBounds_toArray, List.set_cons_zero, List.set_cons_succ]
  obtain ⟨i0, hi0⟩ : ∃ i0 : Nat, (lo : Int) + (s : Int) = i0 := ⟨lo + s, by omega⟩
  have hwi : IntKind.i64.wrap (i0 : Int) = i0 := by rw [IntKind.wrap_i64]; omega
  refine late_pure (i := 6) (v := ?qv507) (oi := ?qo507) ?qh507 (by kernel_rfl) (by kernel_rfl) (by kernel_rfl) (by decide) ?qq507 (Or.inl ⟨?qw507, ?qy507⟩) (by assumption) ?qr507
  case qh507 => (simp only [List.getElem?_toArray, List.getElem?_cons_succ, List.getElem?_cons_zero]; exact rfl)
  case qq507 => exact fun _ _ _ h => h
  case qw507 => rfl
  case qy507 => (intro wx _; go_simp; try with_reducible rfl)
  try simp only [Act.put, List.setIfInBounds_toArray, List.set_cons_zero, List.set_cons_succ]
  refine late_pure (i := 7) (v := ?qv508) (oi := ?qo508) ?qh508 (by kernel_rfl) (by kernel_rfl) (by kernel_rfl) (by decide) ?qq508 (Or.inl ⟨?qw508, ?qy508⟩) (by assumption) ?qr508
  case qh508 => (simp only [List.getElem?_toArray, List.getElem?_cons_succ, List.getElem?_cons_zero]; exact rfl)
  case qq508 => exact fun _ _ _ h => h
  case qw508 => rfl
  case qy508 => (intro wx _; go_simp; try with_reducible rfl)
  try simp only [Act.put, List.setIfInBounds_toArray, List.set_cons_zero, List.set_cons_succ]
  refine late_done (by kernel_rfl) ?_ _
  obtain ⟨c1, c2, c3, c4⟩ := hC5
  have hi1 : (lo : Int) ≤ (i0 : Int) := by omega
  have hi2 : (i0 : Int) ≤ (hi : Int) := by omega
  have H1 : Hid (∀ t, lo ≤ t → t < i0 → 2 * f t < n) := fun t h1 h2 => by
    have := hs1 (t - lo) (by omega)
    rwa [show lo + (t - lo) = t by omega] at this
  have H2 : Hid (∀ t, i0 ≤ t → t < hi → n ≤ 2 * f t) := fun t h1 h2 => by
    have := hs2 (t - lo) (by omega) (by omega)
    rwa [show lo + (t - lo) = t by omega] at this
  have C4 : Hid (∀ t, t < m → World.cell? _ ⟨g, t, none⟩ = some (.int .i64 (f t))) := c4
  have HBE : Hid (Below w.heap.size w (((w.alloc (.cells #[.slice (some ⟨g, 0, none⟩) m cap] 24)).alloc (.cells #[.int .i64 lo] 3)).alloc (.cells #[.int .i64 n] 3))) := ((((Below.refl _ w).alloc (Nat.le_refl _) _).alloc (by simp) _).alloc (by simp; omega) _)
  clear c4 hs1 hs2 hC
  by_cases e1 : i0 = hi
  · have hb1 : ((i0 : Int) == (hi : Int)) = true := by rw [e1]; simp
    have hr : Hid (nm f lo hi n i0 = i0 - 1) := by unfold Hid nm; rw [if_pos (.inl e1)]
    have hpos : 1 ≤ i0 := by omega
    clear e1
    go_wp2
    go_quiet (fail)
    go_wp2
    go_ret
    refine ⟨i0, by omega, by omega, H1.out, H2.out, ?_, ?_⟩
    · exact (ret_int (b := (nm f lo hi n i0 : Int)) (by rw [hr.out]; omega) : Ending.returned (.int .i64 ((i0 : Int) - 1)) = _)
    · first | exact below_drewN HBE.out _ | exact below_drewN (below_drewN HBE.out _) _ | exact below_drewN (below_drewN HBE.out.drew _) _
  · have hb1 : ((i0 : Int) == (hi : Int)) = false := by simp; omega
    by_cases e2 : lo < i0
    · have hd : decide ((lo : Int) < (i0 : Int)) = true := by simp; omega
      have hlI : (lo : Int) < (i0 : Int) := by omega
      obtain ⟨j0, hj0⟩ : ∃ j0 : Nat, (i0 : Int) - 1 = j0 := ⟨i0 - 1, by omega⟩
      have ej : Hid (i0 - 1 = j0) := by unfold Hid; omega
      have gl1 : g < w.heap.size + 1 := by omega
      have gl2 : g < w.heap.size + 1 + 1 := by omega
      have d1 := HG.out j0 (by omega)
      have d2 := HG.out i0 (by omega)
      have f1 := HF.out j0
      have f2 := HF.out i0
      have w1 : IntKind.i64.wrap (j0 : Int) = (j0 : Int) := by rw [IntKind.wrap_i64]; omega
      have w2 : IntKind.i64.wrap (2 * f j0) = 2 * f j0 := by rw [IntKind.wrap_i64]; omega
      have w3 : IntKind.i64.wrap (2 * f i0) = 2 * f i0 := by rw [IntKind.wrap_i64]; omega
      have w4 : IntKind.i64.wrap (n - 2 * f j0) = n - 2 * f j0 := by rw [IntKind.wrap_i64]; omega
      have w5 : IntKind.i64.wrap (2 * f i0 - n) = 2 * f i0 - n := by rw [IntKind.wrap_i64]; omega
      have b1 : (0 : Int) ≤ (j0 : Int) := by omega
      have b2 : (j0 : Int) < (m : Int) := by omega
      have b3 : (i0 : Int) < (m : Int) := by omega
      have b4 : (0 : Int) ≤ (i0 : Int) := by omega
      by_cases e3 : n - 2 * f j0 ≤ 2 * f i0 - n
      · have hd3 : decide (n - 2 * f j0 ≤ 2 * f i0 - n) = true := by simpa using e3
        have hr : Hid (nm f lo hi n i0 = i0 - 1) := by unfold Hid nm; rw [if_pos (.inr ⟨e2, by rw [ej.out]; exact e3⟩)]
        clear e1 e2
        go_wp2
        go_quiet (fail)
        go_wp2
        go_ret
        refine ⟨i0, by omega, by omega, H1.out, H2.out, ?_, ?_⟩
        · exact (ret_int (b := (nm f lo hi n i0 : Int)) (by rw [hr.out]; omega) : Ending.returned (.int .i64 (j0 : Int)) = _)
        · first | exact below_drewN HBE.out _ | exact below_drewN (below_drewN HBE.out _) _ | exact below_drewN (below_drewN HBE.out.drew _) _
      · have hd3 : decide (n - 2 * f j0 ≤ 2 * f i0 - n) = false := by simpa using e3
        have hr : Hid (nm f lo hi n i0 = i0) := by unfold Hid nm; rw [ej.out, if_neg (by omega)]
        clear e1 e2
        go_wp2
        go_quiet (fail)
        go_wp2
        go_ret
        refine ⟨i0, by omega, by omega, H1.out, H2.out, ?_, ?_⟩
        · rw [hr.out]; simp
        · first | exact below_drewN HBE.out _ | exact below_drewN (below_drewN HBE.out _) _ | exact below_drewN (below_drewN HBE.out.drew _) _
    · have hr : Hid (nm f lo hi n i0 = i0) := by unfold Hid nm; rw [if_neg (by omega)]
      clear hi0
      obtain rfl : i0 = lo := by omega
      clear e1 e2 hi1
      go_wp2
      go_quiet (fail)
      go_wp2
      go_ret
      refine ⟨i0, by omega, by omega, H1.out, H2.out, ?_, ?_⟩
      · rw [hr.out]; simp
      · first | exact below_drewN HBE.out _ | exact below_drewN (below_drewN HBE.out _) _ | exact below_drewN (below_drewN HBE.out.drew _) _
end Go.Proofs.Ybulkclpi
