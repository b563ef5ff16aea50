/- The page writer's writePage. -/
import Derived.Test.YbulkclouPg2
namespace Go.Proofs.Ybulkclou.Pg
open Go.RowKit
set_option linter.unusedVariables false
set_option linter.unusedSimpArgs false
set_option maxRecDepth 100000

/-- What the loads of a drawn region read. -/
def C4 (a b : Addr) (u v : Value) (w : World) : Prop := w.cell? a = some u ∧ w.cell? b = some v ∧ w.frozen? a = false

/-- What the loads of a drawn region read. -/
def C3 (a b : Addr) (u v : Value) (w : World) : Prop := w.cell? a = some u ∧ w.cell? b = some v ∧ w.frozen? a = false

set_option maxHeartbeats 4000000 in
theorem wpage_free (c : Cx) (vo vd vp : Value) (dv : List Value) (os : List Int) (pgs : List (List Int)) (bs ps : List Int) (sz : Int) (m : Nat) (en : Int) (vD : Value) (xD : List Int) (w : World)
    (h : SI c vo vd vp dv os pgs bs ps sz .nilIface (m + 1) en vD xD w) (hP : 1 ≤ c.P) (hP2 : c.P ≤ 16) (hbs : bs.length = c.P) (hk : os.length ≤ 5000) (hk2 : pgs.length ≤ 5000) (hk3 : ps.length ≤ 5000) (hz0 : 0 ≤ sz) (hz1 : sz ≤ 1000000) (hF : c.F ≤ 7) (hm : m < c.L) (hL : c.L ≤ 256) (hfl : c.frs.length = c.L) :
    Calls Yba.prog 13 #[.pointer (some ⟨c.WB, 0, none⟩)] w fun e w' => e = .returned (.tuple #[]) ∧
      (os.length + 1 = c.F → ∃ vo' vd' dv', SI c vo' vd' vp dv' (os ++ [c.frs.getD m 0]) (pgs ++ [bs]) bs ps sz (.iface 75 (.pointer (some ⟨c.EB, 0, none⟩))) m en vD xD w') ∧
      (os.length + 1 ≠ c.F → ∃ vo' vd' vp' dv', SI c vo' vd' vp' dv' (os ++ [c.frs.getD m 0]) (pgs ++ [bs]) [] (ps ++ [c.frs.getD m 0]) (sz + bs.length) .nilIface m en vD xD w') := by
  obtain ⟨i2, hi2, hz20, hz21, hz22⟩ := info_parts info2
  have hb1 : 1 ≤ bs.length := by omega
  have hb2 : bs.length ≤ 16 := by omega
  have HB : Hid (bs.length = c.P) := hbs
  have e0 := five_cell0 h.wr
  have hws : IntKind.i64.wrap (sz + (bs.length : Int)) = sz + (bs.length : Int) := by rw [IntKind.wrap_i64]; omega
  have e12 := FC_cell12 h.find
  obtain ⟨fb, hfa, hrow⟩ : ∃ fb, c.fa = some ⟨fb, 0, none⟩ ∧ w.cell? ⟨fb, m, none⟩ = some (.int .i64 (c.frs.getD m 0)) := by
    obtain ⟨g, cap, hv, _, _⟩ := h.of.form (by omega)
    have hv2 := hv
    simp only [Value.slice.injEq] at hv
    refine ⟨g, hv.1, ?_⟩
    have ho := h.of
    rw [hv2] at ho
    rw [ho.cellAt m (by omega)]
    have : m < c.frs.length := by omega
    simp [this]
  rw [hfa] at e12
  have HFA : Hid (c.fa = some ⟨fb, 0, none⟩) := hfa
  have H : Hid _ := h
  have hgt : (0 : Int) < (m : Int) + 1 := by omega
  have hmlt : (m : Int) < (m : Int) + 1 := by omega
  have hwm : IntKind.i64.wrap (m : Int) = (m : Int) := by rw [IntKind.wrap_i64]; omega
  have hC0 : C4 ⟨c.FB, 12, none⟩ ⟨fb, m, none⟩ (.slice (some ⟨fb, 0, none⟩) (m + 1) c.fcap) (.int .i64 (c.frs.getD m 0)) w.drew := ⟨e12, hrow, blk_free h.find⟩
  have hcp : m + 1 ≤ c.fcap := by
    have := h.of.2
    rcases this with ⟨h1, h2⟩ | ⟨g, cap, cur, h1, _, _, h4, _⟩
    · omega
    · simp only [Value.slice.injEq] at h1
      omega
  have hcp2 : c.fcap ≤ 9223372036854775807 := by
    have := h.of.2
    rcases this with ⟨h1, h2⟩ | ⟨g, cap, cur, h1, _, _, _, h5, _⟩
    · simp only [Value.slice.injEq] at h1
      omega
    · simp only [Value.slice.injEq] at h1
      unfold maxLen at h5
      omega
  have hmc : m ≤ c.fcap := by omega
  clear h hbs hfa hfl hrow
  go_enter Yba.func13, Yba.ntmps13
  go_wp2
  refine wp_region_late 19 (C4 ⟨c.FB, 12, none⟩ ⟨fb, m, none⟩ (.slice (some ⟨fb, 0, none⟩) (m + 1) c.fcap) (.int .i64 (c.frs.getD m 0))) (by kernel_rfl) hC0 (fun hC => ?_)
  refine late_pure (i := 0) (v := ?qv1) (oi := ?qo1) ?qh1 (by kernel_rfl) (by kernel_rfl) (by kernel_rfl) (by decide) ?qq1 (Or.inl ⟨?qw1, ?qy1⟩) (by assumption) ?qr1
  case qh1 => (simp only [List.getElem?_toArray, List.getElem?_cons_succ, List.getElem?_cons_zero]; exact rfl)
  case qq1 => exact fun _ _ _ h => h
  case qw1 => rfl
  case qy1 => (intro wx _; go_simp; try with_reducible rfl)
  try simp only [Act.put, List.setIfInBounds_toArray, List.set_cons_zero, List.set_cons_succ]
  refine late_pure (i := 1) (v := ?qv2) (oi := ?qo2) ?qh2 (by kernel_rfl) (by kernel_rfl) (by kernel_rfl) (by decide) ?qq2 (Or.inl ⟨?qw2, ?qy2⟩) (by assumption) ?qr2
  case qh2 => (simp only [List.getElem?_toArray, List.getElem?_cons_succ, List.getElem?_cons_zero]; exact rfl)
  case qq2 => exact fun _ _ _ h => h
  case qw2 => rfl
  case qy2 => (intro wx _; go_simp; try with_reducible rfl)
  try simp only [Act.put, List.setIfInBounds_toArray, List.set_cons_zero, List.set_cons_succ]
  refine late_pure (i := 2) (v := ?qv3) (oi := ?qo3) ?qh3 (by kernel_rfl) (by kernel_rfl) (by kernel_rfl) (by decide) ?qq3 (Or.inl ⟨?qw3, ?qy3⟩) (by assumption) ?qr3
  case qh3 => (simp only [List.getElem?_toArray, List.getElem?_cons_succ, List.getElem?_cons_zero]; exact rfl)
  case qq3 => exact fun _ _ _ h => h
  case qw3 => rfl
  case qy3 => (intro wx _; go_simp; try with_reducible rfl)
  try simp only [Act.put, List.setIfInBounds_toArray, List.set_cons_zero, List.set_cons_succ]
  refine late_pure (i := 3) (v := ?qv4) (oi := ?qo4) ?qh4 (by kernel_rfl) (by kernel_rfl) (by kernel_rfl) (by decide) ?qq4 (Or.inl ⟨?qw4, ?qy4⟩) (by assumption) ?qr4
  case qh4 => (simp only [List.getElem?_toArray, List.getElem?_cons_succ, List.getElem?_cons_zero]; exact rfl)
  case qq4 => exact fun _ _ _ h => h
  case qw4 => rfl
  case qy4 => (intro wx _; go_simp; try with_reducible rfl)
  try simp only [Act.put, List.setIfInBounds_toArray, List.set_cons_zero, List.set_cons_succ]
  refine late_load (i := 4) (v := ?qv5) (oi := ?qo5) ?qh5 (by kernel_rfl) (by kernel_rfl) (by kernel_rfl) (by kernel_rfl) (by kernel_rfl) (by decide) ?qq5 (Or.inl ⟨?qw5, ?qy5⟩) (by assumption) ?qr5
  case qh5 => (simp only [List.getElem?_toArray, List.getElem?_cons_succ, List.getElem?_cons_zero]; exact rfl)
  case qq5 => exact fun _ _ _ h => h
  case qw5 => rfl
  case qy5 => (intro wx hSw; (try dsimp only at hSw); obtain ⟨s1, s2, s3⟩ := hSw; go_simp; try with_reducible rfl)
  try simp only [Act.put, List.setIfInBounds_toArray, List.set_cons_zero, List.set_cons_succ]
  refine late_pure (i := 5) (v := ?qv6) (oi := ?qo6) ?qh6 (by kernel_rfl) (by kernel_rfl) (by kernel_rfl) (by decide) ?qq6 (Or.inl ⟨?qw6, ?qy6⟩) (by assumption) ?qr6
  case qh6 => (simp only [List.getElem?_toArray, List.getElem?_cons_succ, List.getElem?_cons_zero]; exact rfl)
  case qq6 => exact fun _ _ _ h => h
  case qw6 => rfl
  case qy6 => (intro wx _; go_simp; try with_reducible rfl)
  try simp only [Act.put, List.setIfInBounds_toArray, List.set_cons_zero, List.set_cons_succ]
  refine late_pure (i := 6) (v := ?qv7) (oi := ?qo7) ?qh7 (by kernel_rfl) (by kernel_rfl) (by kernel_rfl) (by decide) ?qq7 (Or.inl ⟨?qw7, ?qy7⟩) (by assumption) ?qr7
  case qh7 => (simp only [List.getElem?_toArray, List.getElem?_cons_succ, List.getElem?_cons_zero]; exact rfl)
  case qq7 => exact fun _ _ _ h => h
  case qw7 => rfl
  case qy7 => (intro wx _; go_simp; try with_reducible rfl)
  try simp only [Act.put, List.setIfInBounds_toArray, List.set_cons_zero, List.set_cons_succ]
  refine late_pure (i := 7) (v := ?qv8) (oi := ?qo8) ?qh8 (by kernel_rfl) (by kernel_rfl) (by kernel_rfl) (by decide) ?qq8 (Or.inl ⟨?qw8, ?qy8⟩) (by assumption) ?qr8
  case qh8 => (simp only [List.getElem?_toArray, List.getElem?_cons_succ, List.getElem?_cons_zero]; exact rfl)
  case qq8 => exact fun _ _ _ h => h
  case qw8 => rfl
  case qy8 => (intro wx _; go_simp; try with_reducible rfl)
  try simp only [Act.put, List.setIfInBounds_toArray, List.set_cons_zero, List.set_cons_succ]
  refine late_load (i := 8) (v := ?qv9) (oi := ?qo9) ?qh9 (by kernel_rfl) (by kernel_rfl) (by kernel_rfl) (by kernel_rfl) (by kernel_rfl) (by decide) ?qq9 (Or.inl ⟨?qw9, ?qy9⟩) (by assumption) ?qr9
  case qh9 => (simp only [List.getElem?_toArray, List.getElem?_cons_succ, List.getElem?_cons_zero]; exact rfl)
  case qq9 => exact fun _ _ _ h => h
  case qw9 => rfl
  case qy9 => (intro wx hSw; (try dsimp only at hSw); obtain ⟨s1, s2, s3⟩ := hSw; go_simp; try with_reducible rfl)
  try simp only [Act.put, List.setIfInBounds_toArray, List.set_cons_zero, List.set_cons_succ]
  refine late_pure (i := 9) (v := ?qv10) (oi := ?qo10) ?qh10 (by kernel_rfl) (by kernel_rfl) (by kernel_rfl) (by decide) ?qq10 (Or.inl ⟨?qw10, ?qy10⟩) (by assumption) ?qr10
  case qh10 => (simp only [List.getElem?_toArray, List.getElem?_cons_succ, List.getElem?_cons_zero]; exact rfl)
  case qq10 => exact fun _ _ _ h => h
  case qw10 => rfl
  case qy10 => (intro wx _; go_simp; try with_reducible rfl)
  try simp only [Act.put, List.setIfInBounds_toArray, List.set_cons_zero, List.set_cons_succ]
  refine late_pure (i := 10) (v := ?qv11) (oi := ?qo11) ?qh11 (by kernel_rfl) (by kernel_rfl) (by kernel_rfl) (by decide) ?qq11 (Or.inl ⟨?qw11, ?qy11⟩) (by assumption) ?qr11
  case qh11 => (simp only [List.getElem?_toArray, List.getElem?_cons_succ, List.getElem?_cons_zero]; exact rfl)
  case qq11 => exact fun _ _ _ h => h
  case qw11 => rfl
  case qy11 => (intro wx _; go_simp; try with_reducible rfl)
  try simp only [Act.put, List.setIfInBounds_toArray, List.set_cons_zero, List.set_cons_succ]
  refine late_pure (i := 11) (v := ?qv12) (oi := ?qo12) ?qh12 (by kernel_rfl) (by kernel_rfl) (by kernel_rfl) (by decide) ?qq12 (Or.inl ⟨?qw12, ?qy12⟩) (by assumption) ?qr12
  case qh12 => (simp only [List.getElem?_toArray, List.getElem?_cons_succ, List.getElem?_cons_zero]; exact rfl)
  case qq12 => exact fun _ _ _ h => h
  case qw12 => rfl
  case qy12 => (intro wx _; go_simp; try with_reducible rfl)
  try simp only [Act.put, List.setIfInBounds_toArray, List.set_cons_zero, List.set_cons_succ]
  refine late_load (i := 12) (v := ?qv13) (oi := ?qo13) ?qh13 (by kernel_rfl) (by kernel_rfl) (by kernel_rfl) (by kernel_rfl) (by kernel_rfl) (by decide) ?qq13 (Or.inl ⟨?qw13, ?qy13⟩) (by assumption) ?qr13
  case qh13 => (simp only [List.getElem?_toArray, List.getElem?_cons_succ, List.getElem?_cons_zero]; exact rfl)
  case qq13 => exact fun _ _ _ h => h
  case qw13 => rfl
  case qy13 => (intro wx hSw; (try dsimp only at hSw); obtain ⟨s1, s2, s3⟩ := hSw; go_simp; try with_reducible rfl)
  try simp only [Act.put, List.setIfInBounds_toArray, List.set_cons_zero, List.set_cons_succ]
  refine late_pure (i := 13) (v := ?qv14) (oi := ?qo14) ?qh14 (by kernel_rfl) (by kernel_rfl) (by kernel_rfl) (by decide) ?qq14 (Or.inl ⟨?qw14, ?qy14⟩) (by assumption) ?qr14
  case qh14 => (simp only [List.getElem?_toArray, List.getElem?_cons_succ, List.getElem?_cons_zero]; exact rfl)
  case qq14 => exact fun _ _ _ h => h
  case qw14 => rfl
  case qy14 => (intro wx _; go_simp; try with_reducible rfl)
  try simp only [Act.put, List.setIfInBounds_toArray, List.set_cons_zero, List.set_cons_succ]
  refine late_pure (i := 14) (v := ?qv15) (oi := ?qo15) ?qh15 (by kernel_rfl) (by kernel_rfl) (by kernel_rfl) (by decide) ?qq15 (Or.inl ⟨?qw15, ?qy15⟩) (by assumption) ?qr15
  case qh15 => (simp only [List.getElem?_toArray, List.getElem?_cons_succ, List.getElem?_cons_zero]; exact rfl)
  case qq15 => exact fun _ _ _ h => h
  case qw15 => rfl
  case qy15 => (intro wx _; go_simp; try with_reducible rfl)
  try simp only [Act.put, List.setIfInBounds_toArray, List.set_cons_zero, List.set_cons_succ]
  refine late_pure (i := 15) (v := ?qv16) (oi := ?qo16) ?qh16 (by kernel_rfl) (by kernel_rfl) (by kernel_rfl) (by decide) ?qq16 (Or.inl ⟨?qw16, ?qy16⟩) (by assumption) ?qr16
  case qh16 => (simp only [List.getElem?_toArray, List.getElem?_cons_succ, List.getElem?_cons_zero]; exact rfl)
  case qq16 => exact fun _ _ _ h => h
  case qw16 => rfl
  case qy16 => (intro wx _; go_simp; try with_reducible rfl)
  try simp only [Act.put, List.setIfInBounds_toArray, List.set_cons_zero, List.set_cons_succ]
  refine late_pure (i := 16) (v := ?qv17) (oi := ?qo17) ?qh17 (by kernel_rfl) (by kernel_rfl) (by kernel_rfl) (by decide) ?qq17 (Or.inl ⟨?qw17, ?qy17⟩) (by assumption) ?qr17
  case qh17 => (simp only [List.getElem?_toArray, List.getElem?_cons_succ, List.getElem?_cons_zero]; exact rfl)
  case qq17 => exact fun _ _ _ h => h
  case qw17 => rfl
  case qy17 => (intro wx _; go_simp; try with_reducible rfl)
  try simp only [Act.put, List.setIfInBounds_toArray, List.set_cons_zero, List.set_cons_succ]
  refine late_pure (i := 17) (v := ?qv18) (oi := ?qo18) ?qh18 (by kernel_rfl) (by kernel_rfl) (by kernel_rfl) (by decide) ?qq18 (Or.inl ⟨?qw18, ?qy18⟩) (by assumption) ?qr18
  case qh18 => (simp only [List.getElem?_toArray, List.getElem?_cons_succ, List.getElem?_cons_zero]; exact rfl)
  case qq18 => exact fun _ _ _ h => h
  case qw18 => rfl
  case qy18 => (intro wx _; go_simp; try with_reducible rfl)
  try simp only [Act.put, List.setIfInBounds_toArray, List.set_cons_zero, List.set_cons_succ]
  refine late_pure (i := 18) (v := ?qv19) (oi := ?qo19) ?qh19 (by kernel_rfl) (by kernel_rfl) (by kernel_rfl) (by decide) ?qq19 (Or.inl ⟨?qw19, ?qy19⟩) (by assumption) ?qr19
  case qh19 => (simp only [List.getElem?_toArray, List.getElem?_cons_succ, List.getElem?_cons_zero]; exact rfl)
  case qq19 => exact fun _ _ _ h => h
  case qw19 => rfl
  case qy19 => (intro wx _; go_simp; try with_reducible rfl)
  try simp only [Act.put, List.setIfInBounds_toArray, List.set_cons_zero, List.set_cons_succ]
  have hC6 := hC
  obtain ⟨s1, s2, s3⟩ := hC6
  refine late_rest 19 (by kernel_rfl) (by decide) (o := ?qo20) ?qh20 (fun K hK => ?qr20)
  case qh20 => (simp only [List.getElem?_toArray, List.getElem?_cons_succ, List.getElem?_cons_zero]; exact rfl)
  go_simp
  refine hK.out _ _ ?_
  clear hK K
  try simp only [Act.put, List.setIfInBounds_toArray, List.set_cons_zero, List.set_cons_succ]
  refine late_done (by kernel_rfl) ?_ _
  have hA := (H.out.setFl m).drew
  rw [HFA.out] at hA
  clear s1 s2 s3 hC hC0 e0 e12
  generalize (w.setCell ⟨c.FB, 12, none⟩ (.slice (some ⟨fb, 0, none⟩) m c.fcap)).drew = wa at hA ⊢
  have HA : Hid _ := hA
  clear hA H
  go_wp2
  have q10 := FC_cell10 HA.out.find
  have q1 := five_cell1 HA.out.wr
  have hCa : C3 ⟨c.FB, 10, none⟩ ⟨c.WB, 1, none⟩ (.iface 50 (.pointer (some ⟨c.SB, 0, none⟩))) (.slice (some ⟨c.BB, 0, none⟩) bs.length c.P) wa.drew := ⟨FC_cell10 HA.out.drew.find, five_cell1 HA.out.drew.wr, blk_free HA.out.drew.find⟩
  refine wp_region_late 17 (C3 ⟨c.FB, 10, none⟩ ⟨c.WB, 1, none⟩ (.iface 50 (.pointer (some ⟨c.SB, 0, none⟩))) (.slice (some ⟨c.BB, 0, none⟩) bs.length c.P)) (by kernel_rfl) hCa (fun hC => ?_)
  refine late_pure (i := 0) (v := ?qv21) (oi := ?qo21) ?qh21 (by kernel_rfl) (by kernel_rfl) (by kernel_rfl) (by decide) ?qq21 (Or.inl ⟨?qw21, ?qy21⟩) (by assumption) ?qr21
  case qh21 => (simp only [List.getElem?_toArray, List.getElem?_cons_succ, List.getElem?_cons_zero]; exact rfl)
  case qq21 => exact fun _ _ _ h => h
  case qw21 => rfl
  case qy21 => (intro wx _; go_simp; try with_reducible rfl)
  try simp only [Act.put, List.setIfInBounds_toArray, List.set_cons_zero, List.set_cons_succ]
  refine late_pure (i := 1) (v := ?qv22) (oi := ?qo22) ?qh22 (by kernel_rfl) (by kernel_rfl) (by kernel_rfl) (by decide) ?qq22 (Or.inl ⟨?qw22, ?qy22⟩) (by assumption) ?qr22
  case qh22 => (simp only [List.getElem?_toArray, List.getElem?_cons_succ, List.getElem?_cons_zero]; exact rfl)
  case qq22 => exact fun _ _ _ h => h
  case qw22 => rfl
  case qy22 => (intro wx _; go_simp; try with_reducible rfl)
  try simp only [Act.put, List.setIfInBounds_toArray, List.set_cons_zero, List.set_cons_succ]
  refine late_pure (i := 2) (v := ?qv23) (oi := ?qo23) ?qh23 (by kernel_rfl) (by kernel_rfl) (by kernel_rfl) (by decide) ?qq23 (Or.inl ⟨?qw23, ?qy23⟩) (by assumption) ?qr23
  case qh23 => (simp only [List.getElem?_toArray, List.getElem?_cons_succ, List.getElem?_cons_zero]; exact rfl)
  case qq23 => exact fun _ _ _ h => h
  case qw23 => rfl
  case qy23 => (intro wx _; go_simp; try with_reducible rfl)
  try simp only [Act.put, List.setIfInBounds_toArray, List.set_cons_zero, List.set_cons_succ]
  refine late_load (i := 3) (v := ?qv24) (oi := ?qo24) ?qh24 (by kernel_rfl) (by kernel_rfl) (by kernel_rfl) (by kernel_rfl) (by kernel_rfl) (by decide) ?qq24 (Or.inl ⟨?qw24, ?qy24⟩) (by assumption) ?qr24
  case qh24 => (simp only [List.getElem?_toArray, List.getElem?_cons_succ, List.getElem?_cons_zero]; exact rfl)
  case qq24 => exact fun _ _ _ h => h
  case qw24 => rfl
  case qy24 => (intro wx hSw; (try dsimp only at hSw); obtain ⟨s1, s2, s3⟩ := hSw; go_simp; try with_reducible rfl)
  try simp only [Act.put, List.setIfInBounds_toArray, List.set_cons_zero, List.set_cons_succ]
  refine late_pure (i := 4) (v := ?qv25) (oi := ?qo25) ?qh25 (by kernel_rfl) (by kernel_rfl) (by kernel_rfl) (by decide) ?qq25 (Or.inl ⟨?qw25, ?qy25⟩) (by assumption) ?qr25
  case qh25 => (simp only [List.getElem?_toArray, List.getElem?_cons_succ, List.getElem?_cons_zero]; exact rfl)
  case qq25 => exact fun _ _ _ h => h
  case qw25 => rfl
  case qy25 => (intro wx _; go_simp; try with_reducible rfl)
  try simp only [Act.put, List.setIfInBounds_toArray, List.set_cons_zero, List.set_cons_succ]
  refine late_pure (i := 5) (v := ?qv26) (oi := ?qo26) ?qh26 (by kernel_rfl) (by kernel_rfl) (by kernel_rfl) (by decide) ?qq26 (Or.inl ⟨?qw26, ?qy26⟩) (by assumption) ?qr26
  case qh26 => (simp only [List.getElem?_toArray, List.getElem?_cons_succ, List.getElem?_cons_zero]; exact rfl)
  case qq26 => exact fun _ _ _ h => h
  case qw26 => rfl
  case qy26 => (intro wx _; go_simp; try with_reducible rfl)
  try simp only [Act.put, List.setIfInBounds_toArray, List.set_cons_zero, List.set_cons_succ]
  refine late_pure (i := 6) (v := ?qv27) (oi := ?qo27) ?qh27 (by kernel_rfl) (by kernel_rfl) (by kernel_rfl) (by decide) ?qq27 (Or.inl ⟨?qw27, ?qy27⟩) (by assumption) ?qr27
  case qh27 => (simp only [List.getElem?_toArray, List.getElem?_cons_succ, List.getElem?_cons_zero]; exact rfl)
  case qq27 => exact fun _ _ _ h => h
  case qw27 => rfl
  case qy27 => (intro wx _; go_simp; try with_reducible rfl)
  try simp only [Act.put, List.setIfInBounds_toArray, List.set_cons_zero, List.set_cons_succ]
  refine late_load (i := 7) (v := ?qv28) (oi := ?qo28) ?qh28 (by kernel_rfl) (by kernel_rfl) (by kernel_rfl) (by kernel_rfl) (by kernel_rfl) (by decide) ?qq28 (Or.inl ⟨?qw28, ?qy28⟩) (by assumption) ?qr28
  case qh28 => (simp only [List.getElem?_toArray, List.getElem?_cons_succ, List.getElem?_cons_zero]; exact rfl)
  case qq28 => exact fun _ _ _ h => h
  case qw28 => rfl
  case qy28 => (intro wx hSw; (try dsimp only at hSw); obtain ⟨s1, s2, s3⟩ := hSw; go_simp; try with_reducible rfl)
  try simp only [Act.put, List.setIfInBounds_toArray, List.set_cons_zero, List.set_cons_succ]
  refine late_pure (i := 8) (v := ?qv29) (oi := ?qo29) ?qh29 (by kernel_rfl) (by kernel_rfl) (by kernel_rfl) (by decide) ?qq29 (Or.inl ⟨?qw29, ?qy29⟩) (by assumption) ?qr29
  case qh29 => (simp only [List.getElem?_toArray, List.getElem?_cons_succ, List.getElem?_cons_zero]; exact rfl)
  case qq29 => exact fun _ _ _ h => h
  case qw29 => rfl
  case qy29 => (intro wx _; go_simp; try with_reducible rfl)
  try simp only [Act.put, List.setIfInBounds_toArray, List.set_cons_zero, List.set_cons_succ]
  refine late_pure (i := 9) (v := ?qv30) (oi := ?qo30) ?qh30 (by kernel_rfl) (by kernel_rfl) (by kernel_rfl) (by decide) ?qq30 (Or.inl ⟨?qw30, ?qy30⟩) (by assumption) ?qr30
  case qh30 => (simp only [List.getElem?_toArray, List.getElem?_cons_succ, List.getElem?_cons_zero]; exact rfl)
  case qq30 => exact fun _ _ _ h => h
  case qw30 => rfl
  case qy30 => (intro wx _; go_simp; try with_reducible rfl)
  try simp only [Act.put, List.setIfInBounds_toArray, List.set_cons_zero, List.set_cons_succ]
  refine late_pure (i := 10) (v := ?qv31) (oi := ?qo31) ?qh31 (by kernel_rfl) (by kernel_rfl) (by kernel_rfl) (by decide) ?qq31 (Or.inl ⟨?qw31, ?qy31⟩) (by assumption) ?qr31
  case qh31 => (simp only [List.getElem?_toArray, List.getElem?_cons_succ, List.getElem?_cons_zero]; exact rfl)
  case qq31 => exact fun _ _ _ h => h
  case qw31 => rfl
  case qy31 => (intro wx _; go_simp; try with_reducible rfl)
  try simp only [Act.put, List.setIfInBounds_toArray, List.set_cons_zero, List.set_cons_succ]
  refine late_one (i := 11) (o := ?qo32) (by kernel_rfl) ?qh32 (fun K hK => ?qr32)
  case qh32 => (simp only [List.getElem?_toArray, List.getElem?_cons_succ, List.getElem?_cons_zero]; exact rfl)
  go_simp
  refine upon_method 39 (.pointer (some ⟨c.SB, 0, none⟩)) (fun r => #[r, .slice (some ⟨c.BB, 0, none⟩) bs.length c.P, .int .i64 (c.frs.getD m 0)]) (by kernel_rfl) (by kernel_rfl) _ (writeAt c _ _ _ _ _ _ _ _ _ _ _ _ _ _ _ (c.frs.getD m 0) HA.out.drew hP hP2 HB.out hk hk2 hF) ?_
  rintro e wb ⟨hfail, hgood, vo', vd', dv', hB⟩
  have HBb : Hid _ := hB
  have hCb : C3 ⟨c.FB, 10, none⟩ ⟨c.WB, 1, none⟩ (.iface 50 (.pointer (some ⟨c.SB, 0, none⟩))) (.slice (some ⟨c.BB, 0, none⟩) bs.length c.P) wb := ⟨FC_cell10 hB.find, five_cell1 hB.wr, blk_free hB.find⟩
  clear hB hCa hC q10 q1
  by_cases hf : os.length + 1 = c.F
  · obtain rfl := hfail hf
    refine ⟨_, rfl, ?_⟩
    refine hK.out _ _ hCb ?_
    clear hK K
    try simp only [Act.put, List.setIfInBounds_toArray, List.set_cons_zero, List.set_cons_succ]
    refine late_pure (i := 12) (v := ?qv33) (oi := ?qo33) ?qh33 (by kernel_rfl) (by kernel_rfl) (by kernel_rfl) (by decide) ?qq33 (Or.inl ⟨?qw33, ?qy33⟩) (by assumption) ?qr33
    case qh33 => (simp only [List.getElem?_toArray, List.getElem?_cons_succ, List.getElem?_cons_zero]; exact rfl)
    case qq33 => exact fun _ _ _ h => h
    case qw33 => rfl
    case qy33 => (intro wx _; go_simp; try with_reducible rfl)
    try simp only [Act.put, List.setIfInBounds_toArray, List.set_cons_zero, List.set_cons_succ]
    refine late_pure (i := 13) (v := ?qv34) (oi := ?qo34) ?qh34 (by kernel_rfl) (by kernel_rfl) (by kernel_rfl) (by decide) ?qq34 (Or.inl ⟨?qw34, ?qy34⟩) (by assumption) ?qr34
    case qh34 => (simp only [List.getElem?_toArray, List.getElem?_cons_succ, List.getElem?_cons_zero]; exact rfl)
    case qq34 => exact fun _ _ _ h => h
    case qw34 => rfl
    case qy34 => (intro wx _; go_simp; try with_reducible rfl)
    try simp only [Act.put, List.setIfInBounds_toArray, List.set_cons_zero, List.set_cons_succ]
    refine late_pure (i := 14) (v := ?qv35) (oi := ?qo35) ?qh35 (by kernel_rfl) (by kernel_rfl) (by kernel_rfl) (by decide) ?qq35 (Or.inl ⟨?qw35, ?qy35⟩) (by assumption) ?qr35
    case qh35 => (simp only [List.getElem?_toArray, List.getElem?_cons_succ, List.getElem?_cons_zero]; exact rfl)
    case qq35 => exact fun _ _ _ h => h
    case qw35 => rfl
    case qy35 => (intro wx _; go_simp; try with_reducible rfl)
    try simp only [Act.put, List.setIfInBounds_toArray, List.set_cons_zero, List.set_cons_succ]
    refine late_pure (i := 15) (v := ?qv36) (oi := ?qo36) ?qh36 (by kernel_rfl) (by kernel_rfl) (by kernel_rfl) (by decide) ?qq36 (Or.inl ⟨?qw36, ?qy36⟩) (by assumption) ?qr36
    case qh36 => (simp only [List.getElem?_toArray, List.getElem?_cons_succ, List.getElem?_cons_zero]; exact rfl)
    case qq36 => exact fun _ _ _ h => h
    case qw36 => rfl
    case qy36 => (intro wx _; go_simp; try with_reducible rfl)
    try simp only [Act.put, List.setIfInBounds_toArray, List.set_cons_zero, List.set_cons_succ]
    refine late_pure (i := 16) (v := ?qv37) (oi := ?qo37) ?qh37 (by kernel_rfl) (by kernel_rfl) (by kernel_rfl) (by decide) ?qq37 (Or.inl ⟨?qw37, ?qy37⟩) (by assumption) ?qr37
    case qh37 => (simp only [List.getElem?_toArray, List.getElem?_cons_succ, List.getElem?_cons_zero]; exact rfl)
    case qq37 => exact fun _ _ _ h => h
    case qw37 => rfl
    case qy37 => (intro wx _; go_simp; try with_reducible rfl)
    try simp only [Act.put, List.setIfInBounds_toArray, List.set_cons_zero, List.set_cons_succ]
    refine late_done (by kernel_rfl) ?_ _
    have p4 := five_cell4 HBb.out.wr
    have p4f : wb.frozen? ⟨c.WB, 4, none⟩ = false := blk_free HBb.out.wr
    clear hCb hfail hgood
    go_wp2
    (try simp only [Exit.inBlock, Exit.then]); refine bodyPost_ret (results_none rfl _ _ _) rfl ?_
    exact ⟨rfl, fun _ => ⟨_, _, _, HBb.out.setEr _⟩, fun h => absurd hf h⟩
  · obtain rfl := hgood hf
    refine ⟨_, rfl, ?_⟩
    refine hK.out _ _ hCb ?_
    clear hK K
    try simp only [Act.put, List.setIfInBounds_toArray, List.set_cons_zero, List.set_cons_succ]
    refine late_pure (i := 12) (v := ?qv38) (oi := ?qo38) ?qh38 (by kernel_rfl) (by kernel_rfl) (by kernel_rfl) (by decide) ?qq38 (Or.inl ⟨?qw38, ?qy38⟩) (by assumption) ?qr38
    case qh38 => (simp only [List.getElem?_toArray, List.getElem?_cons_succ, List.getElem?_cons_zero]; exact rfl)
    case qq38 => exact fun _ _ _ h => h
    case qw38 => rfl
    case qy38 => (intro wx _; go_simp; try with_reducible rfl)
    try simp only [Act.put, List.setIfInBounds_toArray, List.set_cons_zero, List.set_cons_succ]
    refine late_pure (i := 13) (v := ?qv39) (oi := ?qo39) ?qh39 (by kernel_rfl) (by kernel_rfl) (by kernel_rfl) (by decide) ?qq39 (Or.inl ⟨?qw39, ?qy39⟩) (by assumption) ?qr39
    case qh39 => (simp only [List.getElem?_toArray, List.getElem?_cons_succ, List.getElem?_cons_zero]; exact rfl)
    case qq39 => exact fun _ _ _ h => h
    case qw39 => rfl
    case qy39 => (intro wx _; go_simp; try with_reducible rfl)
    try simp only [Act.put, List.setIfInBounds_toArray, List.set_cons_zero, List.set_cons_succ]
    refine late_pure (i := 14) (v := ?qv40) (oi := ?qo40) ?qh40 (by kernel_rfl) (by kernel_rfl) (by kernel_rfl) (by decide) ?qq40 (Or.inl ⟨?qw40, ?qy40⟩) (by assumption) ?qr40
    case qh40 => (simp only [List.getElem?_toArray, List.getElem?_cons_succ, List.getElem?_cons_zero]; exact rfl)
    case qq40 => exact fun _ _ _ h => h
    case qw40 => rfl
    case qy40 => (intro wx _; go_simp; try with_reducible rfl)
    try simp only [Act.put, List.setIfInBounds_toArray, List.set_cons_zero, List.set_cons_succ]
    refine late_pure (i := 15) (v := ?qv41) (oi := ?qo41) ?qh41 (by kernel_rfl) (by kernel_rfl) (by kernel_rfl) (by decide) ?qq41 (Or.inl ⟨?qw41, ?qy41⟩) (by assumption) ?qr41
    case qh41 => (simp only [List.getElem?_toArray, List.getElem?_cons_succ, List.getElem?_cons_zero]; exact rfl)
    case qq41 => exact fun _ _ _ h => h
    case qw41 => rfl
    case qy41 => (intro wx _; go_simp; try with_reducible rfl)
    try simp only [Act.put, List.setIfInBounds_toArray, List.set_cons_zero, List.set_cons_succ]
    refine late_pure (i := 16) (v := ?qv42) (oi := ?qo42) ?qh42 (by kernel_rfl) (by kernel_rfl) (by kernel_rfl) (by decide) ?qq42 (Or.inl ⟨?qw42, ?qy42⟩) (by assumption) ?qr42
    case qh42 => (simp only [List.getElem?_toArray, List.getElem?_cons_succ, List.getElem?_cons_zero]; exact rfl)
    case qq42 => exact fun _ _ _ h => h
    case qw42 => rfl
    case qy42 => (intro wx _; go_simp; try with_reducible rfl)
    try simp only [Act.put, List.setIfInBounds_toArray, List.set_cons_zero, List.set_cons_succ]
    refine late_done (by kernel_rfl) ?_ _
    have p2 := five_cell2 HBb.out.wr
    clear hCb hfail hgood
    go_wp2_with (at_builtin; refine wpList_append_lies _ rfl _ _ _ rfl c.base 2 i2 _ 1 8 Yba.underlying48 hi2 hz20 hz21 hz22 rfl (by omega) vp ps.length (i6 ps) rfl (HBb.out.alloc _).op ⟨wb.heap.size, 0, none⟩ 1 1 [.int .i64 (c.frs.getD m 0)] rfl rfl (World.news_of_block (cs := #[.int .i64 (c.frs.getD m 0)]) (t := 2) (fr := (0, 0)) (heap_alloc_new wb _)) (one6 [c.frs.getD m 0]) (by omega) (by unfold maxLen; omega) (by omega) (HBb.out.alloc _).le _ rfl ?_; intro g cap w1 how hgr hat hlt; have y0 := five_cell2 (kp_own (HBb.out.alloc _).op hgr (by decide) _ _ (HBb.out.alloc _).wr); have y1 : w1.frozen? ⟨c.WB, 2, none⟩ = false := blk_free (kp_own (HBb.out.alloc _).op hgr (by decide) _ _ (HBb.out.alloc _).wr))
    have h2 := (HBb.out.alloc _).addPs hgr rfl how hat rfl
    generalize w1.setCell ⟨c.WB, 2, none⟩ (.slice (some ⟨g, 0, none⟩) (ps.length + 1) cap) = w2 at h2 ⊢
    have H2 : Hid _ := h2
    have hC0 : C3 ⟨c.WB, 3, none⟩ ⟨c.WB, 1, none⟩ (.int .i64 sz) (.slice (some ⟨c.BB, 0, none⟩) bs.length c.P) w2.drew := ⟨five_cell3 h2.drew.wr, five_cell1 h2.drew.wr, blk_free h2.drew.wr⟩
    clear h2 y0 y1 how hgr hat hlt p2
    refine wp_region_late 14 (C3 ⟨c.WB, 3, none⟩ ⟨c.WB, 1, none⟩ (.int .i64 sz) (.slice (some ⟨c.BB, 0, none⟩) bs.length c.P)) (by kernel_rfl) hC0 (fun hC => ?_)
    refine late_pure (i := 0) (v := ?qv43) (oi := ?qo43) ?qh43 (by kernel_rfl) (by kernel_rfl) (by kernel_rfl) (by decide) ?qq43 (Or.inl ⟨?qw43, ?qy43⟩) (by assumption) ?qr43
    case qh43 => (simp only [List.getElem?_toArray, List.getElem?_cons_succ, List.getElem?_cons_zero]; exact rfl)
    case qq43 => exact fun _ _ _ h => h
    case qw43 => rfl
    case qy43 => (intro wx _; go_simp; try with_reducible rfl)
    try simp only [Act.put, List.setIfInBounds_toArray, List.set_cons_zero, List.set_cons_succ]
    refine late_pure (i := 1) (v := ?qv44) (oi := ?qo44) ?qh44 (by kernel_rfl) (by kernel_rfl) (by kernel_rfl) (by decide) ?qq44 (Or.inl ⟨?qw44, ?qy44⟩) (by assumption) ?qr44
    case qh44 => (simp only [List.getElem?_toArray, List.getElem?_cons_succ, List.getElem?_cons_zero]; exact rfl)
    case qq44 => exact fun _ _ _ h => h
    case qw44 => rfl
    case qy44 => (intro wx _; go_simp; try with_reducible rfl)
    try simp only [Act.put, List.setIfInBounds_toArray, List.set_cons_zero, List.set_cons_succ]
    refine late_pure (i := 2) (v := ?qv45) (oi := ?qo45) ?qh45 (by kernel_rfl) (by kernel_rfl) (by kernel_rfl) (by decide) ?qq45 (Or.inl ⟨?qw45, ?qy45⟩) (by assumption) ?qr45
    case qh45 => (simp only [List.getElem?_toArray, List.getElem?_cons_succ, List.getElem?_cons_zero]; exact rfl)
    case qq45 => exact fun _ _ _ h => h
    case qw45 => rfl
    case qy45 => (intro wx _; go_simp; try with_reducible rfl)
    try simp only [Act.put, List.setIfInBounds_toArray, List.set_cons_zero, List.set_cons_succ]
    refine late_pure (i := 3) (v := ?qv46) (oi := ?qo46) ?qh46 (by kernel_rfl) (by kernel_rfl) (by kernel_rfl) (by decide) ?qq46 (Or.inl ⟨?qw46, ?qy46⟩) (by assumption) ?qr46
    case qh46 => (simp only [List.getElem?_toArray, List.getElem?_cons_succ, List.getElem?_cons_zero]; exact rfl)
    case qq46 => exact fun _ _ _ h => h
    case qw46 => rfl
    case qy46 => (intro wx _; go_simp; try with_reducible rfl)
    try simp only [Act.put, List.setIfInBounds_toArray, List.set_cons_zero, List.set_cons_succ]
    refine late_load (i := 4) (v := ?qv47) (oi := ?qo47) ?qh47 (by kernel_rfl) (by kernel_rfl) (by kernel_rfl) (by kernel_rfl) (by kernel_rfl) (by decide) ?qq47 (Or.inl ⟨?qw47, ?qy47⟩) (by assumption) ?qr47
    case qh47 => (simp only [List.getElem?_toArray, List.getElem?_cons_succ, List.getElem?_cons_zero]; exact rfl)
    case qq47 => exact fun _ _ _ h => h
    case qw47 => rfl
    case qy47 => (intro wx hSw; (try dsimp only at hSw); obtain ⟨s1, s2, s3⟩ := hSw; go_simp; try with_reducible rfl)
    try simp only [Act.put, List.setIfInBounds_toArray, List.set_cons_zero, List.set_cons_succ]
    refine late_pure (i := 5) (v := ?qv48) (oi := ?qo48) ?qh48 (by kernel_rfl) (by kernel_rfl) (by kernel_rfl) (by decide) ?qq48 (Or.inl ⟨?qw48, ?qy48⟩) (by assumption) ?qr48
    case qh48 => (simp only [List.getElem?_toArray, List.getElem?_cons_succ, List.getElem?_cons_zero]; exact rfl)
    case qq48 => exact fun _ _ _ h => h
    case qw48 => rfl
    case qy48 => (intro wx _; go_simp; try with_reducible rfl)
    try simp only [Act.put, List.setIfInBounds_toArray, List.set_cons_zero, List.set_cons_succ]
    refine late_pure (i := 6) (v := ?qv49) (oi := ?qo49) ?qh49 (by kernel_rfl) (by kernel_rfl) (by kernel_rfl) (by decide) ?qq49 (Or.inl ⟨?qw49, ?qy49⟩) (by assumption) ?qr49
    case qh49 => (simp only [List.getElem?_toArray, List.getElem?_cons_succ, List.getElem?_cons_zero]; exact rfl)
    case qq49 => exact fun _ _ _ h => h
    case qw49 => rfl
    case qy49 => (intro wx _; go_simp; try with_reducible rfl)
    try simp only [Act.put, List.setIfInBounds_toArray, List.set_cons_zero, List.set_cons_succ]
    refine late_pure (i := 7) (v := ?qv50) (oi := ?qo50) ?qh50 (by kernel_rfl) (by kernel_rfl) (by kernel_rfl) (by decide) ?qq50 (Or.inl ⟨?qw50, ?qy50⟩) (by assumption) ?qr50
    case qh50 => (simp only [List.getElem?_toArray, List.getElem?_cons_succ, List.getElem?_cons_zero]; exact rfl)
    case qq50 => exact fun _ _ _ h => h
    case qw50 => rfl
    case qy50 => (intro wx _; go_simp; try with_reducible rfl)
    try simp only [Act.put, List.setIfInBounds_toArray, List.set_cons_zero, List.set_cons_succ]
    refine late_load (i := 8) (v := ?qv51) (oi := ?qo51) ?qh51 (by kernel_rfl) (by kernel_rfl) (by kernel_rfl) (by kernel_rfl) (by kernel_rfl) (by decide) ?qq51 (Or.inl ⟨?qw51, ?qy51⟩) (by assumption) ?qr51
    case qh51 => (simp only [List.getElem?_toArray, List.getElem?_cons_succ, List.getElem?_cons_zero]; exact rfl)
    case qq51 => exact fun _ _ _ h => h
    case qw51 => rfl
    case qy51 => (intro wx hSw; (try dsimp only at hSw); obtain ⟨s1, s2, s3⟩ := hSw; go_simp; try with_reducible rfl)
    try simp only [Act.put, List.setIfInBounds_toArray, List.set_cons_zero, List.set_cons_succ]
    refine late_pure (i := 9) (v := ?qv52) (oi := ?qo52) ?qh52 (by kernel_rfl) (by kernel_rfl) (by kernel_rfl) (by decide) ?qq52 (Or.inl ⟨?qw52, ?qy52⟩) (by assumption) ?qr52
    case qh52 => (simp only [List.getElem?_toArray, List.getElem?_cons_succ, List.getElem?_cons_zero]; exact rfl)
    case qq52 => exact fun _ _ _ h => h
    case qw52 => rfl
    case qy52 => (intro wx _; go_simp; try with_reducible rfl)
    try simp only [Act.put, List.setIfInBounds_toArray, List.set_cons_zero, List.set_cons_succ]
    refine late_pure (i := 10) (v := ?qv53) (oi := ?qo53) ?qh53 (by kernel_rfl) (by kernel_rfl) (by kernel_rfl) (by decide) ?qq53 (Or.inl ⟨?qw53, ?qy53⟩) (by assumption) ?qr53
    case qh53 => (simp only [List.getElem?_toArray, List.getElem?_cons_succ, List.getElem?_cons_zero]; exact rfl)
    case qq53 => exact fun _ _ _ h => h
    case qw53 => rfl
    case qy53 => (intro wx _; go_simp; try with_reducible rfl)
    try simp only [Act.put, List.setIfInBounds_toArray, List.set_cons_zero, List.set_cons_succ]
    refine late_pure (i := 11) (v := ?qv54) (oi := ?qo54) ?qh54 (by kernel_rfl) (by kernel_rfl) (by kernel_rfl) (by decide) ?qq54 (Or.inl ⟨?qw54, ?qy54⟩) (by assumption) ?qr54
    case qh54 => (simp only [List.getElem?_toArray, List.getElem?_cons_succ, List.getElem?_cons_zero]; exact rfl)
    case qq54 => exact fun _ _ _ h => h
    case qw54 => rfl
    case qy54 => (intro wx _; go_simp; try with_reducible rfl)
    try simp only [Act.put, List.setIfInBounds_toArray, List.set_cons_zero, List.set_cons_succ]
    refine late_pure (i := 12) (v := ?qv55) (oi := ?qo55) ?qh55 (by kernel_rfl) (by kernel_rfl) (by kernel_rfl) (by decide) ?qq55 (Or.inl ⟨?qw55, ?qy55⟩) (by assumption) ?qr55
    case qh55 => (simp only [List.getElem?_toArray, List.getElem?_cons_succ, List.getElem?_cons_zero]; exact rfl)
    case qq55 => exact fun _ _ _ h => h
    case qw55 => rfl
    case qy55 => (intro wx _; go_simp; try with_reducible rfl)
    try simp only [Act.put, List.setIfInBounds_toArray, List.set_cons_zero, List.set_cons_succ]
    refine late_pure (i := 13) (v := ?qv56) (oi := ?qo56) ?qh56 (by kernel_rfl) (by kernel_rfl) (by kernel_rfl) (by decide) ?qq56 (Or.inl ⟨?qw56, ?qy56⟩) (by assumption) ?qr56
    case qh56 => (simp only [List.getElem?_toArray, List.getElem?_cons_succ, List.getElem?_cons_zero]; exact rfl)
    case qq56 => exact fun _ _ _ h => h
    case qw56 => rfl
    case qy56 => (intro wx _; go_simp; try with_reducible rfl)
    try simp only [Act.put, List.setIfInBounds_toArray, List.set_cons_zero, List.set_cons_succ]
    have hC6 := hC
    obtain ⟨s1, s2, s3⟩ := hC6
    refine late_rest 14 (by kernel_rfl) (by decide) (o := ?qo57) ?qh57 (fun K hK => ?qr57)
    case qh57 => (simp only [List.getElem?_toArray, List.getElem?_cons_succ, List.getElem?_cons_zero]; exact rfl)
    go_simp
    refine hK.out _ _ ?_
    clear hK K
    try simp only [Act.put, List.setIfInBounds_toArray, List.set_cons_zero, List.set_cons_succ]
    refine late_done (by kernel_rfl) ?_ _
    have h3 := (H2.out.setSz (sz + bs.length)).drew
    generalize (w2.setCell ⟨c.WB, 3, none⟩ (.int .i64 (sz + bs.length))).drew = w3 at h3 ⊢
    have H3 : Hid _ := h3
    have t1 := five_cell1 h3.wr
    have t2 : w3.frozen? ⟨c.WB, 1, none⟩ = false := blk_free h3.wr
    clear h3 hC0 hC s1 s2 s3
    go_wp2
    go_end0
    exact ⟨rfl, fun h => absurd h hf, fun _ => ⟨_, _, _, _, H3.out.cut⟩⟩

set_option maxHeartbeats 4000000 in
theorem wpage_end (c : Cx) (vo vd vp : Value) (dv : List Value) (os : List Int) (pgs : List (List Int)) (bs ps : List Int) (sz : Int) (en : Int) (vD : Value) (xD : List Int) (w : World)
    (h : SI c vo vd vp dv os pgs bs ps sz .nilIface 0 en vD xD w) (hP : 1 ≤ c.P) (hP2 : c.P ≤ 16) (hbs : bs.length = c.P) (hk : os.length ≤ 5000) (hk2 : pgs.length ≤ 5000) (hk3 : ps.length ≤ 5000) (hz0 : 0 ≤ sz) (hz1 : sz ≤ 1000000) (hF : c.F ≤ 7) :
    Calls Yba.prog 13 #[.pointer (some ⟨c.WB, 0, none⟩)] w fun e w' => e = .returned (.tuple #[]) ∧
      (os.length + 1 = c.F → ∃ vo' vd' dv', SI c vo' vd' vp dv' (os ++ [en]) (pgs ++ [bs]) bs ps sz (.iface 75 (.pointer (some ⟨c.EB, 0, none⟩))) 0 (IntKind.i64.wrap (en + c.P)) vD xD w') ∧
      (os.length + 1 ≠ c.F → ∃ vo' vd' vp' dv', SI c vo' vd' vp' dv' (os ++ [en]) (pgs ++ [bs]) [] (ps ++ [en]) (sz + bs.length) .nilIface 0 (IntKind.i64.wrap (en + c.P)) vD xD w') := by
  obtain ⟨i2, hi2, hz20, hz21, hz22⟩ := info_parts info2
  have hb1 : 1 ≤ bs.length := by omega
  have hb2 : bs.length ≤ 16 := by omega
  have HB : Hid (bs.length = c.P) := hbs
  have e0 := five_cell0 h.wr
  have hws : IntKind.i64.wrap (sz + (bs.length : Int)) = sz + (bs.length : Int) := by rw [IntKind.wrap_i64]; omega
  have e12 := FC_cell12 h.find
  have e11 := FC_cell11 h.find
  have H : Hid _ := h
  have hC0 : C3 ⟨c.FB, 11, none⟩ ⟨c.FB, 5, none⟩ (.int .i64 en) (.int .i64 c.P) w.drew := ⟨e11, FC_cell5 h.find, blk_free h.find⟩
  clear h hbs
  go_enter Yba.func13, Yba.ntmps13
  go_wp2
  refine wp_region_late 11 (C3 ⟨c.FB, 11, none⟩ ⟨c.FB, 5, none⟩ (.int .i64 en) (.int .i64 c.P)) (by kernel_rfl) hC0 (fun hC => ?_)
  refine late_pure (i := 0) (v := ?qv1) (oi := ?qo1) ?qh1 (by kernel_rfl) (by kernel_rfl) (by kernel_rfl) (by decide) ?qq1 (Or.inl ⟨?qw1, ?qy1⟩) (by assumption) ?qr1
  case qh1 => (simp only [List.getElem?_toArray, List.getElem?_cons_succ, List.getElem?_cons_zero]; exact rfl)
  case qq1 => exact fun _ _ _ h => h
  case qw1 => rfl
  case qy1 => (intro wx _; go_simp; try with_reducible rfl)
  try simp only [Act.put, List.setIfInBounds_toArray, List.set_cons_zero, List.set_cons_succ]
  refine late_pure (i := 1) (v := ?qv2) (oi := ?qo2) ?qh2 (by kernel_rfl) (by kernel_rfl) (by kernel_rfl) (by decide) ?qq2 (Or.inl ⟨?qw2, ?qy2⟩) (by assumption) ?qr2
  case qh2 => (simp only [List.getElem?_toArray, List.getElem?_cons_succ, List.getElem?_cons_zero]; exact rfl)
  case qq2 => exact fun _ _ _ h => h
  case qw2 => rfl
  case qy2 => (intro wx _; go_simp; try with_reducible rfl)
  try simp only [Act.put, List.setIfInBounds_toArray, List.set_cons_zero, List.set_cons_succ]
  refine late_pure (i := 2) (v := ?qv3) (oi := ?qo3) ?qh3 (by kernel_rfl) (by kernel_rfl) (by kernel_rfl) (by decide) ?qq3 (Or.inl ⟨?qw3, ?qy3⟩) (by assumption) ?qr3
  case qh3 => (simp only [List.getElem?_toArray, List.getElem?_cons_succ, List.getElem?_cons_zero]; exact rfl)
  case qq3 => exact fun _ _ _ h => h
  case qw3 => rfl
  case qy3 => (intro wx _; go_simp; try with_reducible rfl)
  try simp only [Act.put, List.setIfInBounds_toArray, List.set_cons_zero, List.set_cons_succ]
  refine late_load (i := 3) (v := ?qv4) (oi := ?qo4) ?qh4 (by kernel_rfl) (by kernel_rfl) (by kernel_rfl) (by kernel_rfl) (by kernel_rfl) (by decide) ?qq4 (Or.inl ⟨?qw4, ?qy4⟩) (by assumption) ?qr4
  case qh4 => (simp only [List.getElem?_toArray, List.getElem?_cons_succ, List.getElem?_cons_zero]; exact rfl)
  case qq4 => exact fun _ _ _ h => h
  case qw4 => rfl
  case qy4 => (intro wx hSw; (try dsimp only at hSw); obtain ⟨s1, s2, s3⟩ := hSw; go_simp; try with_reducible rfl)
  try simp only [Act.put, List.setIfInBounds_toArray, List.set_cons_zero, List.set_cons_succ]
  refine late_pure (i := 4) (v := ?qv5) (oi := ?qo5) ?qh5 (by kernel_rfl) (by kernel_rfl) (by kernel_rfl) (by decide) ?qq5 (Or.inl ⟨?qw5, ?qy5⟩) (by assumption) ?qr5
  case qh5 => (simp only [List.getElem?_toArray, List.getElem?_cons_succ, List.getElem?_cons_zero]; exact rfl)
  case qq5 => exact fun _ _ _ h => h
  case qw5 => rfl
  case qy5 => (intro wx _; go_simp; try with_reducible rfl)
  try simp only [Act.put, List.setIfInBounds_toArray, List.set_cons_zero, List.set_cons_succ]
  refine late_pure (i := 5) (v := ?qv6) (oi := ?qo6) ?qh6 (by kernel_rfl) (by kernel_rfl) (by kernel_rfl) (by decide) ?qq6 (Or.inl ⟨?qw6, ?qy6⟩) (by assumption) ?qr6
  case qh6 => (simp only [List.getElem?_toArray, List.getElem?_cons_succ, List.getElem?_cons_zero]; exact rfl)
  case qq6 => exact fun _ _ _ h => h
  case qw6 => rfl
  case qy6 => (intro wx _; go_simp; try with_reducible rfl)
  try simp only [Act.put, List.setIfInBounds_toArray, List.set_cons_zero, List.set_cons_succ]
  refine late_pure (i := 6) (v := ?qv7) (oi := ?qo7) ?qh7 (by kernel_rfl) (by kernel_rfl) (by kernel_rfl) (by decide) ?qq7 (Or.inl ⟨?qw7, ?qy7⟩) (by assumption) ?qr7
  case qh7 => (simp only [List.getElem?_toArray, List.getElem?_cons_succ, List.getElem?_cons_zero]; exact rfl)
  case qq7 => exact fun _ _ _ h => h
  case qw7 => rfl
  case qy7 => (intro wx _; go_simp; try with_reducible rfl)
  try simp only [Act.put, List.setIfInBounds_toArray, List.set_cons_zero, List.set_cons_succ]
  refine late_load (i := 7) (v := ?qv8) (oi := ?qo8) ?qh8 (by kernel_rfl) (by kernel_rfl) (by kernel_rfl) (by kernel_rfl) (by kernel_rfl) (by decide) ?qq8 (Or.inl ⟨?qw8, ?qy8⟩) (by assumption) ?qr8
  case qh8 => (simp only [List.getElem?_toArray, List.getElem?_cons_succ, List.getElem?_cons_zero]; exact rfl)
  case qq8 => exact fun _ _ _ h => h
  case qw8 => rfl
  case qy8 => (intro wx hSw; (try dsimp only at hSw); obtain ⟨s1, s2, s3⟩ := hSw; go_simp; try with_reducible rfl)
  try simp only [Act.put, List.setIfInBounds_toArray, List.set_cons_zero, List.set_cons_succ]
  refine late_pure (i := 8) (v := ?qv9) (oi := ?qo9) ?qh9 (by kernel_rfl) (by kernel_rfl) (by kernel_rfl) (by decide) ?qq9 (Or.inl ⟨?qw9, ?qy9⟩) (by assumption) ?qr9
  case qh9 => (simp only [List.getElem?_toArray, List.getElem?_cons_succ, List.getElem?_cons_zero]; exact rfl)
  case qq9 => exact fun _ _ _ h => h
  case qw9 => rfl
  case qy9 => (intro wx _; go_simp; try with_reducible rfl)
  try simp only [Act.put, List.setIfInBounds_toArray, List.set_cons_zero, List.set_cons_succ]
  refine late_pure (i := 9) (v := ?qv10) (oi := ?qo10) ?qh10 (by kernel_rfl) (by kernel_rfl) (by kernel_rfl) (by decide) ?qq10 (Or.inl ⟨?qw10, ?qy10⟩) (by assumption) ?qr10
  case qh10 => (simp only [List.getElem?_toArray, List.getElem?_cons_succ, List.getElem?_cons_zero]; exact rfl)
  case qq10 => exact fun _ _ _ h => h
  case qw10 => rfl
  case qy10 => (intro wx _; go_simp; try with_reducible rfl)
  try simp only [Act.put, List.setIfInBounds_toArray, List.set_cons_zero, List.set_cons_succ]
  refine late_pure (i := 10) (v := ?qv11) (oi := ?qo11) ?qh11 (by kernel_rfl) (by kernel_rfl) (by kernel_rfl) (by decide) ?qq11 (Or.inl ⟨?qw11, ?qy11⟩) (by assumption) ?qr11
  case qh11 => (simp only [List.getElem?_toArray, List.getElem?_cons_succ, List.getElem?_cons_zero]; exact rfl)
  case qq11 => exact fun _ _ _ h => h
  case qw11 => rfl
  case qy11 => (intro wx _; go_simp; try with_reducible rfl)
  try simp only [Act.put, List.setIfInBounds_toArray, List.set_cons_zero, List.set_cons_succ]
  have hC6 := hC
  obtain ⟨s1, s2, s3⟩ := hC6
  refine late_rest 11 (by kernel_rfl) (by decide) (o := ?qo12) ?qh12 (fun K hK => ?qr12)
  case qh12 => (simp only [List.getElem?_toArray, List.getElem?_cons_succ, List.getElem?_cons_zero]; exact rfl)
  go_simp
  refine hK.out _ _ ?_
  clear hK K
  try simp only [Act.put, List.setIfInBounds_toArray, List.set_cons_zero, List.set_cons_succ]
  refine late_done (by kernel_rfl) ?_ _
  have hA := (H.out.setEn (IntKind.i64.wrap (en + c.P))).drew
  clear s1 s2 s3 hC hC0 e0 e12
  generalize (w.setCell ⟨c.FB, 11, none⟩ (.int .i64 (IntKind.i64.wrap (en + c.P)))).drew = wa at hA ⊢
  have HA : Hid _ := hA
  clear hA H
  go_wp2
  have q10 := FC_cell10 HA.out.find
  have q1 := five_cell1 HA.out.wr
  have hCa : C3 ⟨c.FB, 10, none⟩ ⟨c.WB, 1, none⟩ (.iface 50 (.pointer (some ⟨c.SB, 0, none⟩))) (.slice (some ⟨c.BB, 0, none⟩) bs.length c.P) wa.drew := ⟨FC_cell10 HA.out.drew.find, five_cell1 HA.out.drew.wr, blk_free HA.out.drew.find⟩
  refine wp_region_late 17 (C3 ⟨c.FB, 10, none⟩ ⟨c.WB, 1, none⟩ (.iface 50 (.pointer (some ⟨c.SB, 0, none⟩))) (.slice (some ⟨c.BB, 0, none⟩) bs.length c.P)) (by kernel_rfl) hCa (fun hC => ?_)
  refine late_pure (i := 0) (v := ?qv13) (oi := ?qo13) ?qh13 (by kernel_rfl) (by kernel_rfl) (by kernel_rfl) (by decide) ?qq13 (Or.inl ⟨?qw13, ?qy13⟩) (by assumption) ?qr13
  case qh13 => (simp only [List.getElem?_toArray, List.getElem?_cons_succ, List.getElem?_cons_zero]; exact rfl)
  case qq13 => exact fun _ _ _ h => h
  case qw13 => rfl
  case qy13 => (intro wx _; go_simp; try with_reducible rfl)
  try simp only [Act.put, List.setIfInBounds_toArray, List.set_cons_zero, List.set_cons_succ]
  refine late_pure (i := 1) (v := ?qv14) (oi := ?qo14) ?qh14 (by kernel_rfl) (by kernel_rfl) (by kernel_rfl) (by decide) ?qq14 (Or.inl ⟨?qw14, ?qy14⟩) (by assumption) ?qr14
  case qh14 => (simp only [List.getElem?_toArray, List.getElem?_cons_succ, List.getElem?_cons_zero]; exact rfl)
  case qq14 => exact fun _ _ _ h => h
  case qw14 => rfl
  case qy14 => (intro wx _; go_simp; try with_reducible rfl)
  try simp only [Act.put, List.setIfInBounds_toArray, List.set_cons_zero, List.set_cons_succ]
  refine late_pure (i := 2) (v := ?qv15) (oi := ?qo15) ?qh15 (by kernel_rfl) (by kernel_rfl) (by kernel_rfl) (by decide) ?qq15 (Or.inl ⟨?qw15, ?qy15⟩) (by assumption) ?qr15
  case qh15 => (simp only [List.getElem?_toArray, List.getElem?_cons_succ, List.getElem?_cons_zero]; exact rfl)
  case qq15 => exact fun _ _ _ h => h
  case qw15 => rfl
  case qy15 => (intro wx _; go_simp; try with_reducible rfl)
  try simp only [Act.put, List.setIfInBounds_toArray, List.set_cons_zero, List.set_cons_succ]
  refine late_load (i := 3) (v := ?qv16) (oi := ?qo16) ?qh16 (by kernel_rfl) (by kernel_rfl) (by kernel_rfl) (by kernel_rfl) (by kernel_rfl) (by decide) ?qq16 (Or.inl ⟨?qw16, ?qy16⟩) (by assumption) ?qr16
  case qh16 => (simp only [List.getElem?_toArray, List.getElem?_cons_succ, List.getElem?_cons_zero]; exact rfl)
  case qq16 => exact fun _ _ _ h => h
  case qw16 => rfl
  case qy16 => (intro wx hSw; (try dsimp only at hSw); obtain ⟨s1, s2, s3⟩ := hSw; go_simp; try with_reducible rfl)
  try simp only [Act.put, List.setIfInBounds_toArray, List.set_cons_zero, List.set_cons_succ]
  refine late_pure (i := 4) (v := ?qv17) (oi := ?qo17) ?qh17 (by kernel_rfl) (by kernel_rfl) (by kernel_rfl) (by decide) ?qq17 (Or.inl ⟨?qw17, ?qy17⟩) (by assumption) ?qr17
  case qh17 => (simp only [List.getElem?_toArray, List.getElem?_cons_succ, List.getElem?_cons_zero]; exact rfl)
  case qq17 => exact fun _ _ _ h => h
  case qw17 => rfl
  case qy17 => (intro wx _; go_simp; try with_reducible rfl)
  try simp only [Act.put, List.setIfInBounds_toArray, List.set_cons_zero, List.set_cons_succ]
  refine late_pure (i := 5) (v := ?qv18) (oi := ?qo18) ?qh18 (by kernel_rfl) (by kernel_rfl) (by kernel_rfl) (by decide) ?qq18 (Or.inl ⟨?qw18, ?qy18⟩) (by assumption) ?qr18
  case qh18 => (simp only [List.getElem?_toArray, List.getElem?_cons_succ, List.getElem?_cons_zero]; exact rfl)
  case qq18 => exact fun _ _ _ h => h
  case qw18 => rfl
  case qy18 => (intro wx _; go_simp; try with_reducible rfl)
  try simp only [Act.put, List.setIfInBounds_toArray, List.set_cons_zero, List.set_cons_succ]
  refine late_pure (i := 6) (v := ?qv19) (oi := ?qo19) ?qh19 (by kernel_rfl) (by kernel_rfl) (by kernel_rfl) (by decide) ?qq19 (Or.inl ⟨?qw19, ?qy19⟩) (by assumption) ?qr19
  case qh19 => (simp only [List.getElem?_toArray, List.getElem?_cons_succ, List.getElem?_cons_zero]; exact rfl)
  case qq19 => exact fun _ _ _ h => h
  case qw19 => rfl
  case qy19 => (intro wx _; go_simp; try with_reducible rfl)
  try simp only [Act.put, List.setIfInBounds_toArray, List.set_cons_zero, List.set_cons_succ]
  refine late_load (i := 7) (v := ?qv20) (oi := ?qo20) ?qh20 (by kernel_rfl) (by kernel_rfl) (by kernel_rfl) (by kernel_rfl) (by kernel_rfl) (by decide) ?qq20 (Or.inl ⟨?qw20, ?qy20⟩) (by assumption) ?qr20
  case qh20 => (simp only [List.getElem?_toArray, List.getElem?_cons_succ, List.getElem?_cons_zero]; exact rfl)
  case qq20 => exact fun _ _ _ h => h
  case qw20 => rfl
  case qy20 => (intro wx hSw; (try dsimp only at hSw); obtain ⟨s1, s2, s3⟩ := hSw; go_simp; try with_reducible rfl)
  try simp only [Act.put, List.setIfInBounds_toArray, List.set_cons_zero, List.set_cons_succ]
  refine late_pure (i := 8) (v := ?qv21) (oi := ?qo21) ?qh21 (by kernel_rfl) (by kernel_rfl) (by kernel_rfl) (by decide) ?qq21 (Or.inl ⟨?qw21, ?qy21⟩) (by assumption) ?qr21
  case qh21 => (simp only [List.getElem?_toArray, List.getElem?_cons_succ, List.getElem?_cons_zero]; exact rfl)
  case qq21 => exact fun _ _ _ h => h
  case qw21 => rfl
  case qy21 => (intro wx _; go_simp; try with_reducible rfl)
  try simp only [Act.put, List.setIfInBounds_toArray, List.set_cons_zero, List.set_cons_succ]
  refine late_pure (i := 9) (v := ?qv22) (oi := ?qo22) ?qh22 (by kernel_rfl) (by kernel_rfl) (by kernel_rfl) (by decide) ?qq22 (Or.inl ⟨?qw22, ?qy22⟩) (by assumption) ?qr22
  case qh22 => (simp only [List.getElem?_toArray, List.getElem?_cons_succ, List.getElem?_cons_zero]; exact rfl)
  case qq22 => exact fun _ _ _ h => h
  case qw22 => rfl
  case qy22 => (intro wx _; go_simp; try with_reducible rfl)
  try simp only [Act.put, List.setIfInBounds_toArray, List.set_cons_zero, List.set_cons_succ]
  refine late_pure (i := 10) (v := ?qv23) (oi := ?qo23) ?qh23 (by kernel_rfl) (by kernel_rfl) (by kernel_rfl) (by decide) ?qq23 (Or.inl ⟨?qw23, ?qy23⟩) (by assumption) ?qr23
  case qh23 => (simp only [List.getElem?_toArray, List.getElem?_cons_succ, List.getElem?_cons_zero]; exact rfl)
  case qq23 => exact fun _ _ _ h => h
  case qw23 => rfl
  case qy23 => (intro wx _; go_simp; try with_reducible rfl)
  try simp only [Act.put, List.setIfInBounds_toArray, List.set_cons_zero, List.set_cons_succ]
  refine late_one (i := 11) (o := ?qo24) (by kernel_rfl) ?qh24 (fun K hK => ?qr24)
  case qh24 => (simp only [List.getElem?_toArray, List.getElem?_cons_succ, List.getElem?_cons_zero]; exact rfl)
  go_simp
  refine upon_method 39 (.pointer (some ⟨c.SB, 0, none⟩)) (fun r => #[r, .slice (some ⟨c.BB, 0, none⟩) bs.length c.P, .int .i64 (en)]) (by kernel_rfl) (by kernel_rfl) _ (writeAt c _ _ _ _ _ _ _ _ _ _ _ _ _ _ _ (en) HA.out.drew hP hP2 HB.out hk hk2 hF) ?_
  rintro e wb ⟨hfail, hgood, vo', vd', dv', hB⟩
  have HBb : Hid _ := hB
  have hCb : C3 ⟨c.FB, 10, none⟩ ⟨c.WB, 1, none⟩ (.iface 50 (.pointer (some ⟨c.SB, 0, none⟩))) (.slice (some ⟨c.BB, 0, none⟩) bs.length c.P) wb := ⟨FC_cell10 hB.find, five_cell1 hB.wr, blk_free hB.find⟩
  clear hB hCa hC q10 q1
  by_cases hf : os.length + 1 = c.F
  · obtain rfl := hfail hf
    refine ⟨_, rfl, ?_⟩
    refine hK.out _ _ hCb ?_
    clear hK K
    try simp only [Act.put, List.setIfInBounds_toArray, List.set_cons_zero, List.set_cons_succ]
    refine late_pure (i := 12) (v := ?qv25) (oi := ?qo25) ?qh25 (by kernel_rfl) (by kernel_rfl) (by kernel_rfl) (by decide) ?qq25 (Or.inl ⟨?qw25, ?qy25⟩) (by assumption) ?qr25
    case qh25 => (simp only [List.getElem?_toArray, List.getElem?_cons_succ, List.getElem?_cons_zero]; exact rfl)
    case qq25 => exact fun _ _ _ h => h
    case qw25 => rfl
    case qy25 => (intro wx _; go_simp; try with_reducible rfl)
    try simp only [Act.put, List.setIfInBounds_toArray, List.set_cons_zero, List.set_cons_succ]
    refine late_pure (i := 13) (v := ?qv26) (oi := ?qo26) ?qh26 (by kernel_rfl) (by kernel_rfl) (by kernel_rfl) (by decide) ?qq26 (Or.inl ⟨?qw26, ?qy26⟩) (by assumption) ?qr26
    case qh26 => (simp only [List.getElem?_toArray, List.getElem?_cons_succ, List.getElem?_cons_zero]; exact rfl)
    case qq26 => exact fun _ _ _ h => h
    case qw26 => rfl
    case qy26 => (intro wx _; go_simp; try with_reducible rfl)
    try simp only [Act.put, List.setIfInBounds_toArray, List.set_cons_zero, List.set_cons_succ]
    refine late_pure (i := 14) (v := ?qv27) (oi := ?qo27) ?qh27 (by kernel_rfl) (by kernel_rfl) (by kernel_rfl) (by decide) ?qq27 (Or.inl ⟨?qw27, ?qy27⟩) (by assumption) ?qr27
    case qh27 => (simp only [List.getElem?_toArray, List.getElem?_cons_succ, List.getElem?_cons_zero]; exact rfl)
    case qq27 => exact fun _ _ _ h => h
    case qw27 => rfl
    case qy27 => (intro wx _; go_simp; try with_reducible rfl)
    try simp only [Act.put, List.setIfInBounds_toArray, List.set_cons_zero, List.set_cons_succ]
    refine late_pure (i := 15) (v := ?qv28) (oi := ?qo28) ?qh28 (by kernel_rfl) (by kernel_rfl) (by kernel_rfl) (by decide) ?qq28 (Or.inl ⟨?qw28, ?qy28⟩) (by assumption) ?qr28
    case qh28 => (simp only [List.getElem?_toArray, List.getElem?_cons_succ, List.getElem?_cons_zero]; exact rfl)
    case qq28 => exact fun _ _ _ h => h
    case qw28 => rfl
    case qy28 => (intro wx _; go_simp; try with_reducible rfl)
    try simp only [Act.put, List.setIfInBounds_toArray, List.set_cons_zero, List.set_cons_succ]
    refine late_pure (i := 16) (v := ?qv29) (oi := ?qo29) ?qh29 (by kernel_rfl) (by kernel_rfl) (by kernel_rfl) (by decide) ?qq29 (Or.inl ⟨?qw29, ?qy29⟩) (by assumption) ?qr29
    case qh29 => (simp only [List.getElem?_toArray, List.getElem?_cons_succ, List.getElem?_cons_zero]; exact rfl)
    case qq29 => exact fun _ _ _ h => h
    case qw29 => rfl
    case qy29 => (intro wx _; go_simp; try with_reducible rfl)
    try simp only [Act.put, List.setIfInBounds_toArray, List.set_cons_zero, List.set_cons_succ]
    refine late_done (by kernel_rfl) ?_ _
    have p4 := five_cell4 HBb.out.wr
    have p4f : wb.frozen? ⟨c.WB, 4, none⟩ = false := blk_free HBb.out.wr
    clear hCb hfail hgood
    go_wp2
    (try simp only [Exit.inBlock, Exit.then]); refine bodyPost_ret (results_none rfl _ _ _) rfl ?_
    exact ⟨rfl, fun _ => ⟨_, _, _, HBb.out.setEr _⟩, fun h => absurd hf h⟩
  · obtain rfl := hgood hf
    refine ⟨_, rfl, ?_⟩
    refine hK.out _ _ hCb ?_
    clear hK K
    try simp only [Act.put, List.setIfInBounds_toArray, List.set_cons_zero, List.set_cons_succ]
    refine late_pure (i := 12) (v := ?qv30) (oi := ?qo30) ?qh30 (by kernel_rfl) (by kernel_rfl) (by kernel_rfl) (by decide) ?qq30 (Or.inl ⟨?qw30, ?qy30⟩) (by assumption) ?qr30
    case qh30 => (simp only [List.getElem?_toArray, List.getElem?_cons_succ, List.getElem?_cons_zero]; exact rfl)
    case qq30 => exact fun _ _ _ h => h
    case qw30 => rfl
    case qy30 => (intro wx _; go_simp; try with_reducible rfl)
    try simp only [Act.put, List.setIfInBounds_toArray, List.set_cons_zero, List.set_cons_succ]
    refine late_pure (i := 13) (v := ?qv31) (oi := ?qo31) ?qh31 (by kernel_rfl) (by kernel_rfl) (by kernel_rfl) (by decide) ?qq31 (Or.inl ⟨?qw31, ?qy31⟩) (by assumption) ?qr31
    case qh31 => (simp only [List.getElem?_toArray, List.getElem?_cons_succ, List.getElem?_cons_zero]; exact rfl)
    case qq31 => exact fun _ _ _ h => h
    case qw31 => rfl
    case qy31 => (intro wx _; go_simp; try with_reducible rfl)
    try simp only [Act.put, List.setIfInBounds_toArray, List.set_cons_zero, List.set_cons_succ]
    refine late_pure (i := 14) (v := ?qv32) (oi := ?qo32) ?qh32 (by kernel_rfl) (by kernel_rfl) (by kernel_rfl) (by decide) ?qq32 (Or.inl ⟨?qw32, ?qy32⟩) (by assumption) ?qr32
    case qh32 => (simp only [List.getElem?_toArray, List.getElem?_cons_succ, List.getElem?_cons_zero]; exact rfl)
    case qq32 => exact fun _ _ _ h => h
    case qw32 => rfl
    case qy32 => (intro wx _; go_simp; try with_reducible rfl)
    try simp only [Act.put, List.setIfInBounds_toArray, List.set_cons_zero, List.set_cons_succ]
    refine late_pure (i := 15) (v := ?qv33) (oi := ?qo33) ?qh33 (by kernel_rfl) (by kernel_rfl) (by kernel_rfl) (by decide) ?qq33 (Or.inl ⟨?qw33, ?qy33⟩) (by assumption) ?qr33
    case qh33 => (simp only [List.getElem?_toArray, List.getElem?_cons_succ, List.getElem?_cons_zero]; exact rfl)
    case qq33 => exact fun _ _ _ h => h
    case qw33 => rfl
    case qy33 => (intro wx _; go_simp; try with_reducible rfl)
    try simp only [Act.put, List.setIfInBounds_toArray, List.set_cons_zero, List.set_cons_succ]
    refine late_pure (i := 16) (v := ?qv34) (oi := ?qo34) ?qh34 (by kernel_rfl) (by kernel_rfl) (by kernel_rfl) (by decide) ?qq34 (Or.inl ⟨?qw34, ?qy34⟩) (by assumption) ?qr34
    case qh34 => (simp only [List.getElem?_toArray, List.getElem?_cons_succ, List.getElem?_cons_zero]; exact rfl)
    case qq34 => exact fun _ _ _ h => h
    case qw34 => rfl
    case qy34 => (intro wx _; go_simp; try with_reducible rfl)
    try simp only [Act.put, List.setIfInBounds_toArray, List.set_cons_zero, List.set_cons_succ]
    refine late_done (by kernel_rfl) ?_ _
    have p2 := five_cell2 HBb.out.wr
    clear hCb hfail hgood
    go_wp2_with (at_builtin; refine wpList_append_lies _ rfl _ _ _ rfl c.base 2 i2 _ 1 8 Yba.underlying48 hi2 hz20 hz21 hz22 rfl (by omega) vp ps.length (i6 ps) rfl (HBb.out.alloc _).op ⟨wb.heap.size, 0, none⟩ 1 1 [.int .i64 (en)] rfl rfl (World.news_of_block (cs := #[.int .i64 (en)]) (t := 2) (fr := (0, 0)) (heap_alloc_new wb _)) (one6 [en]) (by omega) (by unfold maxLen; omega) (by omega) (HBb.out.alloc _).le _ rfl ?_; intro g cap w1 how hgr hat hlt; have y0 := five_cell2 (kp_own (HBb.out.alloc _).op hgr (by decide) _ _ (HBb.out.alloc _).wr); have y1 : w1.frozen? ⟨c.WB, 2, none⟩ = false := blk_free (kp_own (HBb.out.alloc _).op hgr (by decide) _ _ (HBb.out.alloc _).wr))
    have h2 := (HBb.out.alloc _).addPs hgr rfl how hat rfl
    generalize w1.setCell ⟨c.WB, 2, none⟩ (.slice (some ⟨g, 0, none⟩) (ps.length + 1) cap) = w2 at h2 ⊢
    have H2 : Hid _ := h2
    have hC0 : C3 ⟨c.WB, 3, none⟩ ⟨c.WB, 1, none⟩ (.int .i64 sz) (.slice (some ⟨c.BB, 0, none⟩) bs.length c.P) w2.drew := ⟨five_cell3 h2.drew.wr, five_cell1 h2.drew.wr, blk_free h2.drew.wr⟩
    clear h2 y0 y1 how hgr hat hlt p2
    refine wp_region_late 14 (C3 ⟨c.WB, 3, none⟩ ⟨c.WB, 1, none⟩ (.int .i64 sz) (.slice (some ⟨c.BB, 0, none⟩) bs.length c.P)) (by kernel_rfl) hC0 (fun hC => ?_)
    refine late_pure (i := 0) (v := ?qv35) (oi := ?qo35) ?qh35 (by kernel_rfl) (by kernel_rfl) (by kernel_rfl) (by decide) ?qq35 (Or.inl ⟨?qw35, ?qy35⟩) (by assumption) ?qr35
    case qh35 => (simp only [List.getElem?_toArray, List.getElem?_cons_succ, List.getElem?_cons_zero]; exact rfl)
    case qq35 => exact fun _ _ _ h => h
    case qw35 => rfl
    case qy35 => (intro wx _; go_simp; try with_reducible rfl)
    try simp only [Act.put, List.setIfInBounds_toArray, List.set_cons_zero, List.set_cons_succ]
    refine late_pure (i := 1) (v := ?qv36) (oi := ?qo36) ?qh36 (by kernel_rfl) (by kernel_rfl) (by kernel_rfl) (by decide) ?qq36 (Or.inl ⟨?qw36, ?qy36⟩) (by assumption) ?qr36
    case qh36 => (simp only [List.getElem?_toArray, List.getElem?_cons_succ, List.getElem?_cons_zero]; exact rfl)
    case qq36 => exact fun _ _ _ h => h
    case qw36 => rfl
    case qy36 => (intro wx _; go_simp; try with_reducible rfl)
    try simp only [Act.put, List.setIfInBounds_toArray, List.set_cons_zero, List.set_cons_succ]
    refine late_pure (i := 2) (v := ?qv37) (oi := ?qo37) ?qh37 (by kernel_rfl) (by kernel_rfl) (by kernel_rfl) (by decide) ?qq37 (Or.inl ⟨?qw37, ?qy37⟩) (by assumption) ?qr37
    case qh37 => (simp only [List.getElem?_toArray, List.getElem?_cons_succ, List.getElem?_cons_zero]; exact rfl)
    case qq37 => exact fun _ _ _ h => h
    case qw37 => rfl
    case qy37 => (intro wx _; go_simp; try with_reducible rfl)
    try simp only [Act.put, List.setIfInBounds_toArray, List.set_cons_zero, List.set_cons_succ]
    refine late_pure (i := 3) (v := ?qv38) (oi := ?qo38) ?qh38 (by kernel_rfl) (by kernel_rfl) (by kernel_rfl) (by decide) ?qq38 (Or.inl ⟨?qw38, ?qy38⟩) (by assumption) ?qr38
    case qh38 => (simp only [List.getElem?_toArray, List.getElem?_cons_succ, List.getElem?_cons_zero]; exact rfl)
    case qq38 => exact fun _ _ _ h => h
    case qw38 => rfl
    case qy38 => (intro wx _; go_simp; try with_reducible rfl)
    try simp only [Act.put, List.setIfInBounds_toArray, List.set_cons_zero, List.set_cons_succ]
    refine late_load (i := 4) (v := ?qv39) (oi := ?qo39) ?qh39 (by kernel_rfl) (by kernel_rfl) (by kernel_rfl) (by kernel_rfl) (by kernel_rfl) (by decide) ?qq39 (Or.inl ⟨?qw39, ?qy39⟩) (by assumption) ?qr39
    case qh39 => (simp only [List.getElem?_toArray, List.getElem?_cons_succ, List.getElem?_cons_zero]; exact rfl)
    case qq39 => exact fun _ _ _ h => h
    case qw39 => rfl
    case qy39 => (intro wx hSw; (try dsimp only at hSw); obtain ⟨s1, s2, s3⟩ := hSw; go_simp; try with_reducible rfl)
    try simp only [Act.put, List.setIfInBounds_toArray, List.set_cons_zero, List.set_cons_succ]
    refine late_pure (i := 5) (v := ?qv40) (oi := ?qo40) ?qh40 (by kernel_rfl) (by kernel_rfl) (by kernel_rfl) (by decide) ?qq40 (Or.inl ⟨?qw40, ?qy40⟩) (by assumption) ?qr40
    case qh40 => (simp only [List.getElem?_toArray, List.getElem?_cons_succ, List.getElem?_cons_zero]; exact rfl)
    case qq40 => exact fun _ _ _ h => h
    case qw40 => rfl
    case qy40 => (intro wx _; go_simp; try with_reducible rfl)
    try simp only [Act.put, List.setIfInBounds_toArray, List.set_cons_zero, List.set_cons_succ]
    refine late_pure (i := 6) (v := ?qv41) (oi := ?qo41) ?qh41 (by kernel_rfl) (by kernel_rfl) (by kernel_rfl) (by decide) ?qq41 (Or.inl ⟨?qw41, ?qy41⟩) (by assumption) ?qr41
    case qh41 => (simp only [List.getElem?_toArray, List.getElem?_cons_succ, List.getElem?_cons_zero]; exact rfl)
    case qq41 => exact fun _ _ _ h => h
    case qw41 => rfl
    case qy41 => (intro wx _; go_simp; try with_reducible rfl)
    try simp only [Act.put, List.setIfInBounds_toArray, List.set_cons_zero, List.set_cons_succ]
    refine late_pure (i := 7) (v := ?qv42) (oi := ?qo42) ?qh42 (by kernel_rfl) (by kernel_rfl) (by kernel_rfl) (by decide) ?qq42 (Or.inl ⟨?qw42, ?qy42⟩) (by assumption) ?qr42
    case qh42 => (simp only [List.getElem?_toArray, List.getElem?_cons_succ, List.getElem?_cons_zero]; exact rfl)
    case qq42 => exact fun _ _ _ h => h
    case qw42 => rfl
    case qy42 => (intro wx _; go_simp; try with_reducible rfl)
    try simp only [Act.put, List.setIfInBounds_toArray, List.set_cons_zero, List.set_cons_succ]
    refine late_load (i := 8) (v := ?qv43) (oi := ?qo43) ?qh43 (by kernel_rfl) (by kernel_rfl) (by kernel_rfl) (by kernel_rfl) (by kernel_rfl) (by decide) ?qq43 (Or.inl ⟨?qw43, ?qy43⟩) (by assumption) ?qr43
    case qh43 => (simp only [List.getElem?_toArray, List.getElem?_cons_succ, List.getElem?_cons_zero]; exact rfl)
    case qq43 => exact fun _ _ _ h => h
    case qw43 => rfl
    case qy43 => (intro wx hSw; (try dsimp only at hSw); obtain ⟨s1, s2, s3⟩ := hSw; go_simp; try with_reducible rfl)
    try simp only [Act.put, List.setIfInBounds_toArray, List.set_cons_zero, List.set_cons_succ]
    refine late_pure (i := 9) (v := ?qv44) (oi := ?qo44) ?qh44 (by kernel_rfl) (by kernel_rfl) (by kernel_rfl) (by decide) ?qq44 (Or.inl ⟨?qw44, ?qy44⟩) (by assumption) ?qr44
    case qh44 => (simp only [List.getElem?_toArray, List.getElem?_cons_succ, List.getElem?_cons_zero]; exact rfl)
    case qq44 => exact fun _ _ _ h => h
    case qw44 => rfl
    case qy44 => (intro wx _; go_simp; try with_reducible rfl)
    try simp only [Act.put, List.setIfInBounds_toArray, List.set_cons_zero, List.set_cons_succ]
    refine late_pure (i := 10) (v := ?qv45) (oi := ?qo45) ?qh45 (by kernel_rfl) (by kernel_rfl) (by kernel_rfl) (by decide) ?qq45 (Or.inl ⟨?qw45, ?qy45⟩) (by assumption) ?qr45
    case qh45 => (simp only [List.getElem?_toArray, List.getElem?_cons_succ, List.getElem?_cons_zero]; exact rfl)
    case qq45 => exact fun _ _ _ h => h
    case qw45 => rfl
    case qy45 => (intro wx _; go_simp; try with_reducible rfl)
    try simp only [Act.put, List.setIfInBounds_toArray, List.set_cons_zero, List.set_cons_succ]
    refine late_pure (i := 11) (v := ?qv46) (oi := ?qo46) ?qh46 (by kernel_rfl) (by kernel_rfl) (by kernel_rfl) (by decide) ?qq46 (Or.inl ⟨?qw46, ?qy46⟩) (by assumption) ?qr46
    case qh46 => (simp only [List.getElem?_toArray, List.getElem?_cons_succ, List.getElem?_cons_zero]; exact rfl)
    case qq46 => exact fun _ _ _ h => h
    case qw46 => rfl
    case qy46 => (intro wx _; go_simp; try with_reducible rfl)
    try simp only [Act.put, List.setIfInBounds_toArray, List.set_cons_zero, List.set_cons_succ]
    refine late_pure (i := 12) (v := ?qv47) (oi := ?qo47) ?qh47 (by kernel_rfl) (by kernel_rfl) (by kernel_rfl) (by decide) ?qq47 (Or.inl ⟨?qw47, ?qy47⟩) (by assumption) ?qr47
    case qh47 => (simp only [List.getElem?_toArray, List.getElem?_cons_succ, List.getElem?_cons_zero]; exact rfl)
    case qq47 => exact fun _ _ _ h => h
    case qw47 => rfl
    case qy47 => (intro wx _; go_simp; try with_reducible rfl)
    try simp only [Act.put, List.setIfInBounds_toArray, List.set_cons_zero, List.set_cons_succ]
    refine late_pure (i := 13) (v := ?qv48) (oi := ?qo48) ?qh48 (by kernel_rfl) (by kernel_rfl) (by kernel_rfl) (by decide) ?qq48 (Or.inl ⟨?qw48, ?qy48⟩) (by assumption) ?qr48
    case qh48 => (simp only [List.getElem?_toArray, List.getElem?_cons_succ, List.getElem?_cons_zero]; exact rfl)
    case qq48 => exact fun _ _ _ h => h
    case qw48 => rfl
    case qy48 => (intro wx _; go_simp; try with_reducible rfl)
    try simp only [Act.put, List.setIfInBounds_toArray, List.set_cons_zero, List.set_cons_succ]
    have hC6 := hC
    obtain ⟨s1, s2, s3⟩ := hC6
    refine late_rest 14 (by kernel_rfl) (by decide) (o := ?qo49) ?qh49 (fun K hK => ?qr49)
    case qh49 => (simp only [List.getElem?_toArray, List.getElem?_cons_succ, List.getElem?_cons_zero]; exact rfl)
    go_simp
    refine hK.out _ _ ?_
    clear hK K
    try simp only [Act.put, List.setIfInBounds_toArray, List.set_cons_zero, List.set_cons_succ]
    refine late_done (by kernel_rfl) ?_ _
    have h3 := (H2.out.setSz (sz + bs.length)).drew
    generalize (w2.setCell ⟨c.WB, 3, none⟩ (.int .i64 (sz + bs.length))).drew = w3 at h3 ⊢
    have H3 : Hid _ := h3
    have t1 := five_cell1 h3.wr
    have t2 : w3.frozen? ⟨c.WB, 1, none⟩ = false := blk_free h3.wr
    clear h3 hC0 hC s1 s2 s3
    go_wp2
    go_end0
    exact ⟨rfl, fun h => absurd h hf, fun _ => ⟨_, _, _, _, H3.out.cut⟩⟩

end Go.Proofs.Ybulkclou.Pg
