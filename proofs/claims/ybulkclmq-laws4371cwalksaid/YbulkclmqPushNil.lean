import Derived.Test.YbulkclmqRows
import Derived.Test.YbulkclmqPushP
import Derived.Test.YbulkclmqLate
import Derived.WalkKit
import Derived.WalkSmall
import Derived.WalkLawsBesides
import Derived.BigRegion
import Derived.Deep.AppendLies
import Derived.Deep.DeepMust
namespace Go.Proofs.Ybulkclmq
open Go.RowKit
set_option linter.unusedVariables false
set_option linter.unusedSimpArgs false


/-- What the loads of push's statements read: the two cells of block X. -/
def CX (X : Nat) (a b : Value) (w : World) : Prop := w.cell? ⟨X, 0, none⟩ = some a ∧ w.cell? ⟨X, 1, none⟩ = some b ∧ w.frozen? ⟨X, 0, none⟩ = false ∧ w.frozen? ⟨X, 1, none⟩ = false
theorem CX_of {X : Nat} {a b : Value} {t : TypeId} {w : World} (h : w.heap[X]? = some (.cells #[a, b] t (0, 0))) : CX X a b w := ⟨two_cell0 h, two_cell1 h, two_free h, two_free h⟩

theorem Yba.info2 : (Yba.prog.info? 2).map (fun i => (i.zero, i.size, i.bytes)) = some (some (.int .i64 0), 1, 8) := by kernel_rfl
theorem Yba.info3 : (Yba.prog.info? 3).map (fun i => (i.zero, i.size, i.bytes)) = some (some (.int .i64 0), 1, 8) := by kernel_rfl


set_option maxHeartbeats 4000000 in
theorem push_nil (X f : Nat) (en v : Int) (vE : Value) (es : List Value) (w : World) (hf : 1 ≤ f) (hf5 : f ≤ 5) 
    (h : PN X f 0 vE (.slice none 0 0) es [] w) :
    Calls Yba.prog 5 #[.pointer (some ⟨X, 0, none⟩), .int .i64 en, .int .i64 v, .int .i64 f] w fun e w' => e = .returned (.tuple #[]) ∧ (∃ vE vB sE sV es bs xE xV, PI X f 1 1 vE vB sE sV es bs xE xV w') ∧ Below X w w' := by
  obtain ⟨i2, hi2, hz20, hz21, hz22⟩ := info_parts Yba.info2
  obtain ⟨i3, hi3, hz30, hz31, hz32⟩ := info_parts Yba.info3
  have hx0 := two_cell0 h.blk
  have hx1 := two_cell1 h.blk
  have hfx0 : w.frozen? ⟨X, 0, none⟩ = false := two_free h.blk
  have hfx1 : w.frozen? ⟨X, 1, none⟩ = false := two_free h.blk
  have hX := two_lt h.blk
  have H : Hid _ := h
  clear h
  have hXv : Hid (vE.ownBlock ≠ some X) := fun e0 => by have := (H.out.oE.lt X e0).1; omega
  go_enter Yba.func5, Yba.ntmps5
  go_wp2
  have hwrap : IntKind.i64.wrap 1 = 1 := by rw [IntKind.wrap_i64]; omega
  refine wp_region_late 18 (CX X vE (.slice none 0 0)) (by kernel_rfl) (CX_of (hp_drew H.out.blk)) (fun hC => ?_)
  refine late_pure (i := 0) (v := ?qv1) (oi := ?qo1) ?qh1 (by kernel_rfl) (by kernel_rfl) (by kernel_rfl) (by decide) ?qq1 (Or.inl ⟨?qw1, ?qy1⟩) (by assumption) ?qr1
  case qh1 => (simp only [List.getElem?_toArray, List.getElem?_cons_succ, List.getElem?_cons_zero]; exact rfl)
  case qq1 => exact fun _ _ _ h => h
  case qw1 => rfl
  case qy1 => (intro wx _; go_simp; try with_reducible rfl)
  try simp only [Act.put, List.setIfInBounds_toArray, List.set_cons_zero, List.set_cons_succ]
  refine late_pure (i := 1) (v := ?qv2) (oi := ?qo2) ?qh2 (by kernel_rfl) (by kernel_rfl) (by kernel_rfl) (by decide) ?qq2 (Or.inl ⟨?qw2, ?qy2⟩) (by assumption) ?qr2
  case qh2 => (simp only [List.getElem?_toArray, List.getElem?_cons_succ, List.getElem?_cons_zero]; exact rfl)
  case qq2 => exact fun _ _ _ h => h
  case qw2 => rfl
  case qy2 => (intro wx _; go_simp; try with_reducible rfl)
  try simp only [Act.put, List.setIfInBounds_toArray, List.set_cons_zero, List.set_cons_succ]
  refine late_pure (i := 2) (v := ?qv3) (oi := ?qo3) ?qh3 (by kernel_rfl) (by kernel_rfl) (by kernel_rfl) (by decide) ?qq3 (Or.inl ⟨?qw3, ?qy3⟩) (by assumption) ?qr3
  case qh3 => (simp only [List.getElem?_toArray, List.getElem?_cons_succ, List.getElem?_cons_zero]; exact rfl)
  case qq3 => exact fun _ _ _ h => h
  case qw3 => rfl
  case qy3 => (intro wx _; go_simp; try with_reducible rfl)
  try simp only [Act.put, List.setIfInBounds_toArray, List.set_cons_zero, List.set_cons_succ]
  refine late_pure (i := 3) (v := ?qv4) (oi := ?qo4) ?qh4 (by kernel_rfl) (by kernel_rfl) (by kernel_rfl) (by decide) ?qq4 (Or.inl ⟨?qw4, ?qy4⟩) (by assumption) ?qr4
  case qh4 => (simp only [List.getElem?_toArray, List.getElem?_cons_succ, List.getElem?_cons_zero]; exact rfl)
  case qq4 => exact fun _ _ _ h => h
  case qw4 => rfl
  case qy4 => (intro wx _; go_simp; try with_reducible rfl)
  try simp only [Act.put, List.setIfInBounds_toArray, List.set_cons_zero, List.set_cons_succ]
  refine late_pure (i := 4) (v := ?qv5) (oi := ?qo5) ?qh5 (by kernel_rfl) (by kernel_rfl) (by kernel_rfl) (by decide) ?qq5 (Or.inl ⟨?qw5, ?qy5⟩) (by assumption) ?qr5
  case qh5 => (simp only [List.getElem?_toArray, List.getElem?_cons_succ, List.getElem?_cons_zero]; exact rfl)
  case qq5 => exact fun _ _ _ h => h
  case qw5 => rfl
  case qy5 => (intro wx _; go_simp; try with_reducible rfl)
  try simp only [Act.put, List.setIfInBounds_toArray, List.set_cons_zero, List.set_cons_succ]
  refine late_load (i := 5) (v := ?qv6) (oi := ?qo6) ?qh6 (by kernel_rfl) (by kernel_rfl) (by kernel_rfl) (by kernel_rfl) (by kernel_rfl) (by decide) ?qq6 (Or.inl ⟨?qw6, ?qy6⟩) (by assumption) ?qr6
  case qh6 => (simp only [List.getElem?_toArray, List.getElem?_cons_succ, List.getElem?_cons_zero]; exact rfl)
  case qq6 => exact fun _ _ _ h => h
  case qw6 => rfl
  case qy6 => (intro wx hSw; (try dsimp only at hSw); obtain ⟨s1, s2, s3, s4⟩ := hSw; go_simp; try with_reducible rfl)
  try simp only [Act.put, List.setIfInBounds_toArray, List.set_cons_zero, List.set_cons_succ]
  refine late_pure (i := 8) (v := ?qv7) (oi := ?qo7) ?qh7 (by kernel_rfl) (by kernel_rfl) (by kernel_rfl) (by decide) ?qq7 (Or.inl ⟨?qw7, ?qy7⟩) (by assumption) ?qr7
  case qh7 => (simp only [List.getElem?_toArray, List.getElem?_cons_succ, List.getElem?_cons_zero]; exact rfl)
  case qq7 => exact fun _ _ _ h => h
  case qw7 => rfl
  case qy7 => (intro wx _; go_simp; try with_reducible rfl)
  try simp only [Act.put, List.setIfInBounds_toArray, List.set_cons_zero, List.set_cons_succ]
  refine late_pure (i := 9) (v := ?qv8) (oi := ?qo8) ?qh8 (by kernel_rfl) (by kernel_rfl) (by kernel_rfl) (by decide) ?qq8 (Or.inl ⟨?qw8, ?qy8⟩) (by assumption) ?qr8
  case qh8 => (simp only [List.getElem?_toArray, List.getElem?_cons_succ, List.getElem?_cons_zero]; exact rfl)
  case qq8 => exact fun _ _ _ h => h
  case qw8 => rfl
  case qy8 => (intro wx _; go_simp; try with_reducible rfl)
  try simp only [Act.put, List.setIfInBounds_toArray, List.set_cons_zero, List.set_cons_succ]
  refine late_pure (i := 10) (v := ?qv9) (oi := ?qo9) ?qh9 (by kernel_rfl) (by kernel_rfl) (by kernel_rfl) (by decide) ?qq9 (Or.inl ⟨?qw9, ?qy9⟩) (by assumption) ?qr9
  case qh9 => (simp only [List.getElem?_toArray, List.getElem?_cons_succ, List.getElem?_cons_zero]; exact rfl)
  case qq9 => exact fun _ _ _ h => h
  case qw9 => rfl
  case qy9 => (intro wx _; go_simp; try with_reducible rfl)
  try simp only [Act.put, List.setIfInBounds_toArray, List.set_cons_zero, List.set_cons_succ]
  refine late_load (i := 11) (v := ?qv10) (oi := ?qo10) ?qh10 (by kernel_rfl) (by kernel_rfl) (by kernel_rfl) (by kernel_rfl) (by kernel_rfl) (by decide) ?qq10 (Or.inl ⟨?qw10, ?qy10⟩) (by assumption) ?qr10
  case qh10 => (simp only [List.getElem?_toArray, List.getElem?_cons_succ, List.getElem?_cons_zero]; exact rfl)
  case qq10 => exact fun _ _ _ h => h
  case qw10 => rfl
  case qy10 => (intro wx hSw; (try dsimp only at hSw); obtain ⟨s1, s2, s3, s4⟩ := hSw; go_simp; try with_reducible rfl)
  try simp only [Act.put, List.setIfInBounds_toArray, List.set_cons_zero, List.set_cons_succ]
  refine late_pure (i := 13) (v := ?qv11) (oi := ?qo11) ?qh11 (by kernel_rfl) (by kernel_rfl) (by kernel_rfl) (by decide) ?qq11 (Or.inl ⟨?qw11, ?qy11⟩) (by assumption) ?qr11
  case qh11 => (simp only [List.getElem?_toArray, List.getElem?_cons_succ, List.getElem?_cons_zero]; exact rfl)
  case qq11 => exact fun _ _ _ h => h
  case qw11 => rfl
  case qy11 => (intro wx _; go_simp; try with_reducible rfl)
  try simp only [Act.put, List.setIfInBounds_toArray, List.set_cons_zero, List.set_cons_succ]
  refine late_pure (i := 14) (v := ?qv12) (oi := ?qo12) ?qh12 (by kernel_rfl) (by kernel_rfl) (by kernel_rfl) (by decide) ?qq12 (Or.inl ⟨?qw12, ?qy12⟩) (by assumption) ?qr12
  case qh12 => (simp only [List.getElem?_toArray, List.getElem?_cons_succ, List.getElem?_cons_zero]; exact rfl)
  case qq12 => exact fun _ _ _ h => h
  case qw12 => rfl
  case qy12 => (intro wx _; go_simp; try with_reducible rfl)
  try simp only [Act.put, List.setIfInBounds_toArray, List.set_cons_zero, List.set_cons_succ]
  refine late_one (i := 6) (o := ?qo13) (by kernel_rfl) ?qh13 (fun K hK => ?qr13)
  case qh13 => (simp only [List.getElem?_toArray, List.getElem?_cons_succ, List.getElem?_cons_zero]; exact rfl)
  go_simp
  have hq6 := hp_alloc (o := .cells #[.int .i64 0] 2) H.out.blk
  refine hK.out _ _ (CX_of (hp_drew hq6)) ?_
  clear hK K hq6
  have hC6 : Hid True := trivial
  refine late_one (i := 7) (o := ?qo14) (by kernel_rfl) ?qh14 (fun K hK => ?qr14)
  case qh14 => (simp only [List.getElem?_toArray, List.getElem?_cons_succ, List.getElem?_cons_zero]; exact rfl)
  refine step_append_lies _ (by rfl) (.tmp 39) (.tmp 40) 24 (by rfl) (X + 1) 2 i2 _ 1 8 Yba.underlying24 hi2 hz20 hz21 hz22 rfl (by omega) vE 0 es (by rfl) (H.out.oE.alloc _).drew ⟨w.heap.size, 0, none⟩ 1 1 [.int .i64 0] (by rfl) (by rfl) (World.news_of_block (cs := #[.int .i64 0]) (t := 2) (fr := (0, 0)) (heap_alloc_new w _)) (by simp [Value.oneCell']) (by omega) (by unfold maxLen; omega) (by omega) (by simp; omega) (w.heap.size + 1) (by simp) ?_
  intro gE capE wE howE hgrE hatE hltE
  have hqE : wE.heap[X]? = some (.cells #[vE, (.slice none 0 0)] 27 (0, 0)) := hp_grown hgrE hXv.out (hp_drew (hp_alloc H.out.blk))
  refine hK.out _ _ (CX_of hqE) ?_
  clear hK K
  try simp only [Act.put, List.setIfInBounds_toArray, List.set_cons_zero, List.set_cons_succ]
  have hBE : Hid (BRow wE (X + 1) (.slice none 0 0) 0 []) := br_grown hgrE (br_ne H.out.oB H.out.oE (by decide)) (br_drew (br_alloc H.out.oB))
  have hEl : w.heap.size < wE.heap.size := Nat.lt_of_lt_of_le (by show w.heap.size < (w.alloc _).heap.size; simp) hgrE.size
  have hC7 : Hid True := trivial
  refine late_one (i := 12) (o := ?qo15) (by kernel_rfl) ?qh15 (fun K hK => ?qr15)
  case qh15 => (simp only [List.getElem?_toArray, List.getElem?_cons_succ, List.getElem?_cons_zero]; exact rfl)
  go_simp
  refine (grow_any _ (X + 1) (.slice none 0 0) 0 [] hBE.out (by omega) (by omega)).mono ?_
  rintro e wG ⟨gB, capB, rfl, hc1, hc2, hgX, hrow, hbG⟩
  have hqG : wG.heap[X]? = some (.cells #[vE, (.slice none 0 0)] 27 (0, 0)) := hp_below hbG hqE
  have hC12 : Hid True := trivial
  dsimp only
  refine hK.out _ _ (CX_of hqG) ?_
  clear hK K
  try simp only [Act.put, List.setIfInBounds_toArray, List.set_cons_zero, List.set_cons_succ]
  have gI1 : (1 : Int) ≤ (capB : Int) := by omega
  have gI0 : (0 : Int) ≤ 1 := by omega
  have gI2 : capB ≤ 9223372036854775807 := hc2
  have g0 := two_cell0 hqG
  have g1 := two_cell1 hqG
  have gf0 : wG.frozen? ⟨X, 0, none⟩ = false := two_free hqG
  have gf1 : wG.frozen? ⟨X, 1, none⟩ = false := two_free hqG
  have gl := two_lt hqG
  have hCG : CX X vE (.slice none 0 0) wG := CX_of hqG
  have HqG : Hid _ := hqG
  have Hrow : Hid _ := hrow
  clear hqG hrow hqE hC
  refine late_pure (i := 15) (v := ?qv16) (oi := ?qo16) ?qh16 (by kernel_rfl) (by kernel_rfl) (by kernel_rfl) (by decide) ?qq16 (Or.inl ⟨?qw16, ?qy16⟩) (by assumption) ?qr16
  case qh16 => (simp only [List.getElem?_toArray, List.getElem?_cons_succ, List.getElem?_cons_zero]; exact rfl)
  case qq16 => exact fun _ _ _ h => h
  case qw16 => rfl
  case qy16 => (intro wx _; go_simp; try with_reducible rfl)
  try simp only [Act.put, List.setIfInBounds_toArray, List.set_cons_zero, List.set_cons_succ]
  refine late_pure (i := 16) (v := ?qv17) (oi := ?qo17) ?qh17 (by kernel_rfl) (by kernel_rfl) (by kernel_rfl) (by decide) ?qq17 (Or.inl ⟨?qw17, ?qy17⟩) (by assumption) ?qr17
  case qh17 => (simp only [List.getElem?_toArray, List.getElem?_cons_succ, List.getElem?_cons_zero]; exact rfl)
  case qq17 => exact fun _ _ _ h => h
  case qw17 => rfl
  case qy17 => (intro wx _; go_simp; try with_reducible rfl)
  try simp only [Act.put, List.setIfInBounds_toArray, List.set_cons_zero, List.set_cons_succ]
  refine late_pure (i := 17) (v := ?qv18) (oi := ?qo18) ?qh18 (by kernel_rfl) (by kernel_rfl) (by kernel_rfl) (by decide) ?qq18 (Or.inl ⟨?qw18, ?qy18⟩) (by assumption) ?qr18
  case qh18 => (simp only [List.getElem?_toArray, List.getElem?_cons_succ, List.getElem?_cons_zero]; exact rfl)
  case qq18 => exact fun _ _ _ h => h
  case qw18 => rfl
  case qy18 => (intro wx _; go_simp; try with_reducible rfl)
  try simp only [Act.put, List.setIfInBounds_toArray, List.set_cons_zero, List.set_cons_succ]
  refine late_rest 18 (by kernel_rfl) (by decide) (o := ?qo19) ?qh19 (fun K hK => ?qr19)
  case qh19 => (simp only [List.getElem?_toArray, List.getElem?_cons_succ, List.getElem?_cons_zero]; exact rfl)
  go_simp
  refine hK.out _ _ ?_
  clear hK K
  try simp only [Act.put, List.setIfInBounds_toArray, List.set_cons_zero, List.set_cons_succ]
  refine late_rest 19 (by kernel_rfl) (by decide) (o := ?qo20) ?qh20 (fun K hK => ?qr20)
  case qh20 => (simp only [List.getElem?_toArray, List.getElem?_cons_succ, List.getElem?_cons_zero]; exact rfl)
  go_simp
  refine hK.out _ _ ?_
  clear hK K
  try simp only [Act.put, List.setIfInBounds_toArray, List.set_cons_zero, List.set_cons_succ]
  refine late_rest 20 (by kernel_rfl) (by decide) (o := ?qo21) ?qh21 (fun K hK => ?qr21)
  case qh21 => (simp only [List.getElem?_toArray, List.getElem?_cons_succ, List.getElem?_cons_zero]; exact rfl)
  go_simp
  refine hK.out _ _ ?_
  clear hK K
  try simp only [Act.put, List.setIfInBounds_toArray, List.set_cons_zero, List.set_cons_succ]
  refine late_rest 21 (by kernel_rfl) (by decide) (o := ?qo22) ?qh22 (fun K hK => ?qr22)
  case qh22 => (simp only [List.getElem?_toArray, List.getElem?_cons_succ, List.getElem?_cons_zero]; exact rfl)
  go_simp
  refine hK.out _ _ ?_
  clear hK K
  try simp only [Act.put, List.setIfInBounds_toArray, List.set_cons_zero, List.set_cons_succ]
  refine late_done (by kernel_rfl) ?_ _
  have P3 : PI X f 1 0 (.slice (some ⟨gE, 0, none⟩) 1 capE) (.slice (some ⟨gB, 0, none⟩) 1 capB) nilS nilS (es ++ [.int .i64 0]) [] [] [] ((wG.setCell ⟨X, 0, none⟩ (.slice (some ⟨gE, 0, none⟩) 1 capE)).setCell ⟨X, 1, none⟩ (.slice (some ⟨gB, 0, none⟩) 1 capB)) := PI_new (nb := 0) HqG.out (ow_below hbG howE) hgX hc1 hc2 rfl Hrow.out (fun t ht => absurd ht (by omega))
  have hb3 : Below X w ((wG.setCell ⟨X, 0, none⟩ (.slice (some ⟨gE, 0, none⟩) 1 capE)).setCell ⟨X, 1, none⟩ (.slice (some ⟨gB, 0, none⟩) 1 capB)) := ((((((Below.refl X w).alloc (Nat.le_of_lt hX) _).drew).grown hgrE (by show X ≤ (w.alloc _).heap.size; simp; omega) (fun k hk => by have := (H.out.oE.lt k hk).1; omega)).trans (hbG.mono (by omega))).setCell (Nat.le_refl _) _).setCell (Nat.le_refl _) _
  generalize ((wG.setCell ⟨X, 0, none⟩ (.slice (some ⟨gE, 0, none⟩) 1 capE)).setCell ⟨X, 1, none⟩ (.slice (some ⟨gB, 0, none⟩) 1 capB)) = W3 at P3 hb3 ⊢
  clear HqG Hrow hbG hgrE howE hBE hCG g0 g1 gf0 gf1 gl hatE hltE hEl hx0 hx1 hfx0 hfx1 hXv H
  have x1 := two_cell1 P3.blk
  have x0 := two_cell0 P3.blk
  have xl := two_lt P3.blk
  have bE := P3.cellE (m := 0) (by omega)
  have bV := P3.cellV (m := 0) (by omega)
  have bfE : W3.frozen? ⟨gB, 0, none⟩ = false := br_free P3.oB _
  have bfV : W3.frozen? ⟨gB, 1, none⟩ = false := br_free P3.oB _
  have bl := (br_lt P3.oB gB rfl).2
  have bX := (br_lt P3.oB gB rfl).1
  have HP3 : Hid _ := P3
  clear P3
  go_wp2
  go_region
  go_wp2
  have P5 : PI X f 1 0 (.slice (some ⟨gE, 0, none⟩) 1 capE) (.slice (some ⟨gB, 0, none⟩) 1 capB) nilS nilS (es ++ [.int .i64 0]) [] [] [] (((W3.setCell ⟨gB, 0, none⟩ (.slice none 0 0)).setCell ⟨gB, 1, none⟩ (.slice none 0 0)).drew) := (PI_put (n := 0) (m := 0) HP3.out.blk HP3.out.oE HP3.out.oB (by omega) rfl (by omega) HP3.out.len HP3.out.o1 HP3.out.o2 HP3.out.ne).drew
  have hb5 : Below X w (((W3.setCell ⟨gB, 0, none⟩ (.slice none 0 0)).setCell ⟨gB, 1, none⟩ (.slice none 0 0)).drew) := ((hb3.setCell (by simpa using Nat.le_of_succ_le bX) _).setCell (by simpa using Nat.le_of_succ_le bX) _).drew
  generalize ((W3.setCell ⟨gB, 0, none⟩ (.slice none 0 0)).setCell ⟨gB, 1, none⟩ (.slice none 0 0)).drew = W5 at P5 hb5 ⊢
  clear x1 x0 xl bE bV bfE bfV bl bX HP3 hb3
  have hm : ([] : List Value).length = 0 := rfl
  have HP : Hid _ := P5
  have HR : Hid _ := P5.rs
  have nX1 : Hid _ := P5.nX1
  have nX2 : Hid _ := P5.nX2
  have nE1 : Hid _ := P5.nE1
  have nE2 : Hid _ := P5.nE2
  have nB1 : Hid _ := P5.nB1
  have nB2 : Hid _ := P5.nB2
  have nVE : Hid _ := P5.nVE
  have hXl := two_lt P5.blk
  have hvl : Hid (∀ k, Value.ownBlock (.slice (some ⟨gE, 0, none⟩) 1 capE) = some k → k < W5.heap.size) := fun k hk => (P5.oE.lt k hk).2
  clear P5
  refine wp_region_late 18 (CY gB 0 1 nilS nilS) (by kernel_rfl) (CY_of (HR.out.drew) hm rfl) (fun hC => ?_)
  refine late_pure (i := 0) (v := ?qv23) (oi := ?qo23) ?qh23 (by kernel_rfl) (by kernel_rfl) (by kernel_rfl) (by decide) ?qq23 (Or.inl ⟨?qw23, ?qy23⟩) (by assumption) ?qr23
  case qh23 => (simp only [List.getElem?_toArray, List.getElem?_cons_succ, List.getElem?_cons_zero]; exact rfl)
  case qq23 => exact fun _ _ _ h => h
  case qw23 => rfl
  case qy23 => (intro wx _; go_simp; try with_reducible rfl)
  try simp only [Act.put, List.setIfInBounds_toArray, List.set_cons_zero, List.set_cons_succ]
  refine late_pure (i := 1) (v := ?qv24) (oi := ?qo24) ?qh24 (by kernel_rfl) (by kernel_rfl) (by kernel_rfl) (by decide) ?qq24 (Or.inl ⟨?qw24, ?qy24⟩) (by assumption) ?qr24
  case qh24 => (simp only [List.getElem?_toArray, List.getElem?_cons_succ, List.getElem?_cons_zero]; exact rfl)
  case qq24 => exact fun _ _ _ h => h
  case qw24 => rfl
  case qy24 => (intro wx _; go_simp; try with_reducible rfl)
  try simp only [Act.put, List.setIfInBounds_toArray, List.set_cons_zero, List.set_cons_succ]
  refine late_pure (i := 2) (v := ?qv25) (oi := ?qo25) ?qh25 (by kernel_rfl) (by kernel_rfl) (by kernel_rfl) (by decide) ?qq25 (Or.inl ⟨?qw25, ?qy25⟩) (by assumption) ?qr25
  case qh25 => (simp only [List.getElem?_toArray, List.getElem?_cons_succ, List.getElem?_cons_zero]; exact rfl)
  case qq25 => exact fun _ _ _ h => h
  case qw25 => rfl
  case qy25 => (intro wx _; go_simp; try with_reducible rfl)
  try simp only [Act.put, List.setIfInBounds_toArray, List.set_cons_zero, List.set_cons_succ]
  refine late_pure (i := 3) (v := ?qv26) (oi := ?qo26) ?qh26 (by kernel_rfl) (by kernel_rfl) (by kernel_rfl) (by decide) ?qq26 (Or.inl ⟨?qw26, ?qy26⟩) (by assumption) ?qr26
  case qh26 => (simp only [List.getElem?_toArray, List.getElem?_cons_succ, List.getElem?_cons_zero]; exact rfl)
  case qq26 => exact fun _ _ _ h => h
  case qw26 => rfl
  case qy26 => (intro wx _; go_simp; try with_reducible rfl)
  try simp only [Act.put, List.setIfInBounds_toArray, List.set_cons_zero, List.set_cons_succ]
  refine late_pure (i := 4) (v := ?qv27) (oi := ?qo27) ?qh27 (by kernel_rfl) (by kernel_rfl) (by kernel_rfl) (by decide) ?qq27 (Or.inl ⟨?qw27, ?qy27⟩) (by assumption) ?qr27
  case qh27 => (simp only [List.getElem?_toArray, List.getElem?_cons_succ, List.getElem?_cons_zero]; exact rfl)
  case qq27 => exact fun _ _ _ h => h
  case qw27 => rfl
  case qy27 => (intro wx _; go_simp; try with_reducible rfl)
  try simp only [Act.put, List.setIfInBounds_toArray, List.set_cons_zero, List.set_cons_succ]
  refine late_load (i := 5) (v := ?qv28) (oi := ?qo28) ?qh28 (by kernel_rfl) (by kernel_rfl) (by kernel_rfl) (by kernel_rfl) (by kernel_rfl) (by decide) ?qq28 (Or.inl ⟨?qw28, ?qy28⟩) (by assumption) ?qr28
  case qh28 => (simp only [List.getElem?_toArray, List.getElem?_cons_succ, List.getElem?_cons_zero]; exact rfl)
  case qq28 => exact fun _ _ _ h => h
  case qw28 => rfl
  case qy28 => (intro wx hSw; (try dsimp only at hSw); obtain ⟨s1, s2, s3, s4⟩ := hSw; go_simp; try with_reducible rfl)
  try simp only [Act.put, List.setIfInBounds_toArray, List.set_cons_zero, List.set_cons_succ]
  refine late_pure (i := 6) (v := ?qv29) (oi := ?qo29) ?qh29 (by kernel_rfl) (by kernel_rfl) (by kernel_rfl) (by decide) ?qq29 (Or.inl ⟨?qw29, ?qy29⟩) (by assumption) ?qr29
  case qh29 => (simp only [List.getElem?_toArray, List.getElem?_cons_succ, List.getElem?_cons_zero]; exact rfl)
  case qq29 => exact fun _ _ _ h => h
  case qw29 => rfl
  case qy29 => (intro wx _; go_simp; try with_reducible rfl)
  try simp only [Act.put, List.setIfInBounds_toArray, List.set_cons_zero, List.set_cons_succ]
  refine late_pure (i := 9) (v := ?qv30) (oi := ?qo30) ?qh30 (by kernel_rfl) (by kernel_rfl) (by kernel_rfl) (by decide) ?qq30 (Or.inl ⟨?qw30, ?qy30⟩) (by assumption) ?qr30
  case qh30 => (simp only [List.getElem?_toArray, List.getElem?_cons_succ, List.getElem?_cons_zero]; exact rfl)
  case qq30 => exact fun _ _ _ h => h
  case qw30 => rfl
  case qy30 => (intro wx _; go_simp; try with_reducible rfl)
  try simp only [Act.put, List.setIfInBounds_toArray, List.set_cons_zero, List.set_cons_succ]
  refine late_pure (i := 10) (v := ?qv31) (oi := ?qo31) ?qh31 (by kernel_rfl) (by kernel_rfl) (by kernel_rfl) (by decide) ?qq31 (Or.inl ⟨?qw31, ?qy31⟩) (by assumption) ?qr31
  case qh31 => (simp only [List.getElem?_toArray, List.getElem?_cons_succ, List.getElem?_cons_zero]; exact rfl)
  case qq31 => exact fun _ _ _ h => h
  case qw31 => rfl
  case qy31 => (intro wx _; go_simp; try with_reducible rfl)
  try simp only [Act.put, List.setIfInBounds_toArray, List.set_cons_zero, List.set_cons_succ]
  refine late_pure (i := 11) (v := ?qv32) (oi := ?qo32) ?qh32 (by kernel_rfl) (by kernel_rfl) (by kernel_rfl) (by decide) ?qq32 (Or.inl ⟨?qw32, ?qy32⟩) (by assumption) ?qr32
  case qh32 => (simp only [List.getElem?_toArray, List.getElem?_cons_succ, List.getElem?_cons_zero]; exact rfl)
  case qq32 => exact fun _ _ _ h => h
  case qw32 => rfl
  case qy32 => (intro wx _; go_simp; try with_reducible rfl)
  try simp only [Act.put, List.setIfInBounds_toArray, List.set_cons_zero, List.set_cons_succ]
  refine late_load (i := 12) (v := ?qv33) (oi := ?qo33) ?qh33 (by kernel_rfl) (by kernel_rfl) (by kernel_rfl) (by kernel_rfl) (by kernel_rfl) (by decide) ?qq33 (Or.inl ⟨?qw33, ?qy33⟩) (by assumption) ?qr33
  case qh33 => (simp only [List.getElem?_toArray, List.getElem?_cons_succ, List.getElem?_cons_zero]; exact rfl)
  case qq33 => exact fun _ _ _ h => h
  case qw33 => rfl
  case qy33 => (intro wx hSw; (try dsimp only at hSw); obtain ⟨s1, s2, s3, s4⟩ := hSw; go_simp; try with_reducible rfl)
  try simp only [Act.put, List.setIfInBounds_toArray, List.set_cons_zero, List.set_cons_succ]
  refine late_pure (i := 13) (v := ?qv34) (oi := ?qo34) ?qh34 (by kernel_rfl) (by kernel_rfl) (by kernel_rfl) (by decide) ?qq34 (Or.inl ⟨?qw34, ?qy34⟩) (by assumption) ?qr34
  case qh34 => (simp only [List.getElem?_toArray, List.getElem?_cons_succ, List.getElem?_cons_zero]; exact rfl)
  case qq34 => exact fun _ _ _ h => h
  case qw34 => rfl
  case qy34 => (intro wx _; go_simp; try with_reducible rfl)
  try simp only [Act.put, List.setIfInBounds_toArray, List.set_cons_zero, List.set_cons_succ]
  refine late_two (i := 7) (j := 14) (o := ?qo35) (o' := ?qp35) (by kernel_rfl) ?qh35 ?qi35 (fun K hK => ?qr35) (fun K hK => ?qs35)
  case qh35 => (simp only [List.getElem?_toArray, List.getElem?_cons_succ, List.getElem?_cons_zero]; exact rfl)
  case qi35 => (simp only [List.getElem?_toArray, List.getElem?_cons_succ, List.getElem?_cons_zero]; exact rfl)
  case qr35 =>
    go_simp
    refine hK.out _ _ (CY_of HR.out.alloc.drew hm rfl) ?_
    clear hK K
    try simp only [Act.put, List.setIfInBounds_toArray, List.set_cons_zero, List.set_cons_succ]
    refine late_two (i := 8) (j := 14) (o := ?qo36) (o' := ?qp36) (by kernel_rfl) ?qh36 ?qi36 (fun K hK => ?qr36) (fun K hK => ?qs36)
    case qh36 => (simp only [List.getElem?_toArray, List.getElem?_cons_succ, List.getElem?_cons_zero]; exact rfl)
    case qi36 => (simp only [List.getElem?_toArray, List.getElem?_cons_succ, List.getElem?_cons_zero]; exact rfl)
    case qr36 =>
      refine step_append_lies _ (by rfl) (.tmp 87) (.tmp 89) 24 (by rfl) (X + 1) 2 i2 _ 1 8 Yba.underlying24 hi2 hz20 hz21 hz22 rfl (by omega) nilS 0 [] (by rfl) (HP.out.o1.alloc _).drew ⟨W5.heap.size, 0, none⟩ 1 1 [.int .i64 en] (by rfl) (by rfl) (World.news_of_block (cs := #[.int .i64 en]) (t := 2) (fr := (0, 0)) (heap_alloc_new W5 _)) (by simp [Value.oneCell']) (by omega) (by unfold maxLen; omega) (by omega) (by (try simp); omega) (W5.heap.size + 1) (by try simp) ?_
      intro g1 cap1 wE how1 hgr1 hat1 hlt1
      have RE : Hid _ := (HR.out.alloc.drew).grown hgr1 nX1.out nE1.out nB1.out
      have hEl : W5.heap.size < wE.heap.size := Nat.lt_of_lt_of_le (by simp <;> omega) hgr1.size
      refine hK.out _ _ (CY_of RE.out hm rfl) ?_
      clear hK K
      try simp only [Act.put, List.setIfInBounds_toArray, List.set_cons_zero, List.set_cons_succ]
      refine late_one (i := 14) (o := ?qo37) (by kernel_rfl) ?qh37 (fun K hK => ?qr37)
      case qh37 => (simp only [List.getElem?_toArray, List.getElem?_cons_succ, List.getElem?_cons_zero]; exact rfl)
      go_simp
      refine hK.out _ _ (CY_of RE.out.alloc hm rfl) ?_
      clear hK K
      try simp only [Act.put, List.setIfInBounds_toArray, List.set_cons_zero, List.set_cons_succ]
      refine late_one (i := 15) (o := ?qo38) (by kernel_rfl) ?qh38 (fun K hK => ?qr38)
      case qh38 => (simp only [List.getElem?_toArray, List.getElem?_cons_succ, List.getElem?_cons_zero]; exact rfl)
      have hV1 := ow_alloc (o := .cells #[.int .i64 v] 3) (ow_grown hgr1 nVE.out (HP.out.o2.alloc _).drew)
      have hE1 := ow_alloc (o := .cells #[.int .i64 v] 3) how1
      have hS1 := RE.out.alloc (o := .cells #[.int .i64 v] 3)
      refine step_append_lies _ (by rfl) (.tmp 94) (.tmp 96) 34 (by rfl) (X + 1) 3 i3 _ 1 8 Yba.underlying34 hi3 hz30 hz31 hz32 rfl (by omega) nilS 0 [] (by rfl) hV1 ⟨wE.heap.size, 0, none⟩ 1 1 [.int .i64 v] (by rfl) (by rfl) (World.news_of_block (cs := #[.int .i64 v]) (t := 3) (fr := (0, 0)) (heap_alloc_new wE _)) (by simp [Value.oneCell']) (by omega) (by unfold maxLen; omega) (by omega) (by (try simp); omega) (wE.heap.size + 1) (by try simp) ?_
      intro g2 cap2 wV how2 hgr2 hat2 hlt2
      have RV : Hid _ := hS1.grown hgr2 nX2.out nE2.out nB2.out
      have oV1 : Hid _ := ow_grown hgr2 (own_ne hE1 hV1 (by decide)) hE1
      have hCV := CY_of RV.out hm rfl
      refine hK.out _ _ (CY_of RV.out hm rfl) ?_
      clear hK K
      try simp only [Act.put, List.setIfInBounds_toArray, List.set_cons_zero, List.set_cons_succ]
      have hb6 := ((((hb5).alloc (Nat.le_of_lt hXl) (.cells #[.int .i64 en] 2)).drew).grown hgr1 (by show X ≤ (World.alloc W5 _).heap.size; simp; omega) (fun k hk => by have := (HP.out.o1.lt k hk).1; omega)).alloc (by omega) (.cells #[.int .i64 v] 3)
      have hb7 : Below X w wV := hb6.grown hgr2 (by (try simp); omega) (fun k hk => by have := (HP.out.o2.lt k hk).1; omega)
      have ne1 : Hid _ := ne_after (cp := cap1) (k := 1) (vE := (.slice (some ⟨gE, 0, none⟩) 1 capE)) hat1 HP.out.ne (fun k hk => by have := hvl.out k hk; omega)
      have v0 := two_cell0 RV.out.blk
      have v1 := two_cell1 RV.out.blk
      obtain ⟨c1, c2, c3, c4⟩ := hCV
      have hCV2 : CY gB _ _ _ _ wV := ⟨c1, c2, c3, c4⟩
      refine late_pure (i := 16) (v := ?qv39) (oi := ?qo39) ?qh39 (by kernel_rfl) (by kernel_rfl) (by kernel_rfl) (by decide) ?qq39 (Or.inl ⟨?qw39, ?qy39⟩) (by assumption) ?qr39
      case qh39 => (simp only [List.getElem?_toArray, List.getElem?_cons_succ, List.getElem?_cons_zero]; exact rfl)
      case qq39 => exact fun _ _ _ h => h
      case qw39 => rfl
      case qy39 => (intro wx _; go_simp; try with_reducible rfl)
      try simp only [Act.put, List.setIfInBounds_toArray, List.set_cons_zero, List.set_cons_succ]
      refine late_pure (i := 17) (v := ?qv40) (oi := ?qo40) ?qh40 (by kernel_rfl) (by kernel_rfl) (by kernel_rfl) (by decide) ?qq40 (Or.inl ⟨?qw40, ?qy40⟩) (by assumption) ?qr40
      case qh40 => (simp only [List.getElem?_toArray, List.getElem?_cons_succ, List.getElem?_cons_zero]; exact rfl)
      case qq40 => exact fun _ _ _ h => h
      case qw40 => rfl
      case qy40 => (intro wx _; go_simp; try with_reducible rfl)
      try simp only [Act.put, List.setIfInBounds_toArray, List.set_cons_zero, List.set_cons_succ]
      refine late_rest 18 (by kernel_rfl) (by decide) (o := ?qo41) ?qh41 (fun K hK => ?qr41)
      case qh41 => (simp only [List.getElem?_toArray, List.getElem?_cons_succ, List.getElem?_cons_zero]; exact rfl)
      go_simp
      refine hK.out _ _ ?_
      clear hK K
      try simp only [Act.put, List.setIfInBounds_toArray, List.set_cons_zero, List.set_cons_succ]
      refine late_rest 19 (by kernel_rfl) (by decide) (o := ?qo42) ?qh42 (fun K hK => ?qr42)
      case qh42 => (simp only [List.getElem?_toArray, List.getElem?_cons_succ, List.getElem?_cons_zero]; exact rfl)
      go_simp
      refine hK.out _ _ ?_
      clear hK K
      try simp only [Act.put, List.setIfInBounds_toArray, List.set_cons_zero, List.set_cons_succ]
      refine late_rest 20 (by kernel_rfl) (by decide) (o := ?qo43) ?qh43 (fun K hK => ?qr43)
      case qh43 => (simp only [List.getElem?_toArray, List.getElem?_cons_succ, List.getElem?_cons_zero]; exact rfl)
      go_simp
      refine hK.out _ _ ?_
      clear hK K
      try simp only [Act.put, List.setIfInBounds_toArray, List.set_cons_zero, List.set_cons_succ]
      refine late_rest 21 (by kernel_rfl) (by decide) (o := ?qo44) ?qh44 (fun K hK => ?qr44)
      case qh44 => (simp only [List.getElem?_toArray, List.getElem?_cons_succ, List.getElem?_cons_zero]; exact rfl)
      go_simp
      refine hK.out _ _ ?_
      clear hK K
      try simp only [Act.put, List.setIfInBounds_toArray, List.set_cons_zero, List.set_cons_succ]
      refine late_done (by kernel_rfl) ?_ _
      have P7 : PI X f 1 1 (.slice (some ⟨gE, 0, none⟩) 1 capE) (.slice (some ⟨gB, 0, none⟩) 1 capB) (.slice (some ⟨g1, 0, none⟩) 1 cap1) (.slice (some ⟨g2, 0, none⟩) 1 cap2) (es ++ [.int .i64 0]) [] _ _ ((wV.setCell ⟨gB, 0, none⟩ (.slice (some ⟨g1, 0, none⟩) 1 cap1)).setCell ⟨gB, 1, none⟩ (.slice (some ⟨g2, 0, none⟩) 1 cap2)) := PI_put (n := 0) RV.out.blk RV.out.oE RV.out.oB (by omega) hm (by omega) HP.out.len oV1.out how2 ne1.out
      have hb8 : Below X w ((wV.setCell ⟨gB, 0, none⟩ (.slice (some ⟨g1, 0, none⟩) 1 cap1)).setCell ⟨gB, 1, none⟩ (.slice (some ⟨g2, 0, none⟩) 1 cap2)) := (hb7.setCell (show X ≤ gB by have := (br_lt HP.out.oB gB rfl).1; omega) _).setCell (show X ≤ gB by have := (br_lt HP.out.oB gB rfl).1; omega) _
      generalize ((wV.setCell ⟨gB, 0, none⟩ (.slice (some ⟨g1, 0, none⟩) 1 cap1)).setCell ⟨gB, 1, none⟩ (.slice (some ⟨g2, 0, none⟩) 1 cap2)) = W7 at P7 hb8 ⊢
      have x0 := two_cell0 P7.blk
      have q0 : ∃ u, W7.cell? ⟨gE, 0, none⟩ = some u := ⟨_, (P7.oE.cellAt 0 (by omega)).trans (List.getElem?_eq_getElem (by have := P7.oE.1; omega))⟩
      obtain ⟨u0, q0⟩ := q0
      have q1 : W7.frozen? ⟨gE, 0, none⟩ = false := P7.oE.frozenAt _
      have q2 := (P7.oE.lt gE rfl).1
      have HF : Hid _ := P7
      clear P7 c1 c2 c3 c4 hCV2 v0 v1
      go_wp2
      go_end0
      exact ⟨rfl, ⟨_, _, _, _, _, _, _, _, HF.out.stored⟩, hb8.setCell (by simpa using Nat.le_of_succ_le q2) _⟩
    case qs36 =>
      go_simp
      refine hK.out _ _ (CY_of HR.out.alloc.alloc.drew hm rfl) ?_
      clear hK K
      try simp only [Act.put, List.setIfInBounds_toArray, List.set_cons_zero, List.set_cons_succ]
      refine late_one (i := 8) (o := ?qo45) (by kernel_rfl) ?qh45 (fun K hK => ?qr45)
      case qh45 => (simp only [List.getElem?_toArray, List.getElem?_cons_succ, List.getElem?_cons_zero]; exact rfl)
      refine step_append_lies _ (by rfl) (.tmp 87) (.tmp 89) 24 (by rfl) (X + 1) 2 i2 _ 1 8 Yba.underlying24 hi2 hz20 hz21 hz22 rfl (by omega) nilS 0 [] (by rfl) ((HP.out.o1.alloc _).alloc _).drew ⟨W5.heap.size, 0, none⟩ 1 1 [.int .i64 en] (by rfl) (by rfl) (World.news_of_block (cs := #[.int .i64 en]) (t := 2) (fr := (0, 0)) (hp_drew (hp_alloc (heap_alloc_new W5 _)))) (by simp [Value.oneCell']) (by omega) (by unfold maxLen; omega) (by omega) (by (try simp); omega) (W5.heap.size + 1 + 1) (by try simp) ?_
      intro g1 cap1 wE how1 hgr1 hat1 hlt1
      have RE : Hid _ := (HR.out.alloc.alloc.drew).grown hgr1 nX1.out nE1.out nB1.out
      have hEl : W5.heap.size < wE.heap.size := Nat.lt_of_lt_of_le (by simp <;> omega) hgr1.size
      refine hK.out _ _ (CY_of RE.out hm rfl) ?_
      clear hK K
      try simp only [Act.put, List.setIfInBounds_toArray, List.set_cons_zero, List.set_cons_succ]
      refine late_one (i := 15) (o := ?qo46) (by kernel_rfl) ?qh46 (fun K hK => ?qr46)
      case qh46 => (simp only [List.getElem?_toArray, List.getElem?_cons_succ, List.getElem?_cons_zero]; exact rfl)
      have hV1 := ow_grown hgr1 nVE.out ((HP.out.o2.alloc _).alloc _).drew
      have hE1 := how1
      have hS1 := RE.out
      refine step_append_lies _ (by rfl) (.tmp 94) (.tmp 96) 34 (by rfl) (X + 1) 3 i3 _ 1 8 Yba.underlying34 hi3 hz30 hz31 hz32 rfl (by omega) nilS 0 [] (by rfl) hV1 ⟨W5.heap.size + 1, 0, none⟩ 1 1 [.int .i64 v] (by rfl) (by rfl) (World.news_of_block (cs := #[.int .i64 v]) (t := 3) (fr := (0, 0)) (hp_grown hgr1 (fun e0 => by have := (HP.out.o1.lt _ e0).2; omega) (hp_drew (hp_new (by simp))))) (by simp [Value.oneCell']) (by omega) (by unfold maxLen; omega) (by omega) (by (try simp); omega) (wE.heap.size) (by try simp) ?_
      intro g2 cap2 wV how2 hgr2 hat2 hlt2
      have RV : Hid _ := hS1.grown hgr2 nX2.out nE2.out nB2.out
      have oV1 : Hid _ := ow_grown hgr2 (own_ne hE1 hV1 (by decide)) hE1
      have hCV := CY_of RV.out hm rfl
      refine hK.out _ _ (CY_of RV.out hm rfl) ?_
      clear hK K
      try simp only [Act.put, List.setIfInBounds_toArray, List.set_cons_zero, List.set_cons_succ]
      have hb6 := (((((hb5).alloc (Nat.le_of_lt hXl) (.cells #[.int .i64 en] 2)).alloc (by simp; omega) (.cells #[.int .i64 v] 3)).drew).grown hgr1 (by show X ≤ (World.alloc (World.alloc W5 _) _).heap.size; simp; omega) (fun k hk => by have := (HP.out.o1.lt k hk).1; omega))
      have hb7 : Below X w wV := hb6.grown hgr2 (by (try simp); omega) (fun k hk => by have := (HP.out.o2.lt k hk).1; omega)
      have ne1 : Hid _ := ne_after (cp := cap1) (k := 1) (vE := (.slice (some ⟨gE, 0, none⟩) 1 capE)) hat1 HP.out.ne (fun k hk => by have := hvl.out k hk; omega)
      have v0 := two_cell0 RV.out.blk
      have v1 := two_cell1 RV.out.blk
      obtain ⟨c1, c2, c3, c4⟩ := hCV
      have hCV2 : CY gB _ _ _ _ wV := ⟨c1, c2, c3, c4⟩
      refine late_pure (i := 16) (v := ?qv47) (oi := ?qo47) ?qh47 (by kernel_rfl) (by kernel_rfl) (by kernel_rfl) (by decide) ?qq47 (Or.inl ⟨?qw47, ?qy47⟩) (by assumption) ?qr47
      case qh47 => (simp only [List.getElem?_toArray, List.getElem?_cons_succ, List.getElem?_cons_zero]; exact rfl)
      case qq47 => exact fun _ _ _ h => h
      case qw47 => rfl
      case qy47 => (intro wx _; go_simp; try with_reducible rfl)
      try simp only [Act.put, List.setIfInBounds_toArray, List.set_cons_zero, List.set_cons_succ]
      refine late_pure (i := 17) (v := ?qv48) (oi := ?qo48) ?qh48 (by kernel_rfl) (by kernel_rfl) (by kernel_rfl) (by decide) ?qq48 (Or.inl ⟨?qw48, ?qy48⟩) (by assumption) ?qr48
      case qh48 => (simp only [List.getElem?_toArray, List.getElem?_cons_succ, List.getElem?_cons_zero]; exact rfl)
      case qq48 => exact fun _ _ _ h => h
      case qw48 => rfl
      case qy48 => (intro wx _; go_simp; try with_reducible rfl)
      try simp only [Act.put, List.setIfInBounds_toArray, List.set_cons_zero, List.set_cons_succ]
      refine late_rest 18 (by kernel_rfl) (by decide) (o := ?qo49) ?qh49 (fun K hK => ?qr49)
      case qh49 => (simp only [List.getElem?_toArray, List.getElem?_cons_succ, List.getElem?_cons_zero]; exact rfl)
      go_simp
      refine hK.out _ _ ?_
      clear hK K
      try simp only [Act.put, List.setIfInBounds_toArray, List.set_cons_zero, List.set_cons_succ]
      refine late_rest 19 (by kernel_rfl) (by decide) (o := ?qo50) ?qh50 (fun K hK => ?qr50)
      case qh50 => (simp only [List.getElem?_toArray, List.getElem?_cons_succ, List.getElem?_cons_zero]; exact rfl)
      go_simp
      refine hK.out _ _ ?_
      clear hK K
      try simp only [Act.put, List.setIfInBounds_toArray, List.set_cons_zero, List.set_cons_succ]
      refine late_rest 20 (by kernel_rfl) (by decide) (o := ?qo51) ?qh51 (fun K hK => ?qr51)
      case qh51 => (simp only [List.getElem?_toArray, List.getElem?_cons_succ, List.getElem?_cons_zero]; exact rfl)
      go_simp
      refine hK.out _ _ ?_
      clear hK K
      try simp only [Act.put, List.setIfInBounds_toArray, List.set_cons_zero, List.set_cons_succ]
      refine late_rest 21 (by kernel_rfl) (by decide) (o := ?qo52) ?qh52 (fun K hK => ?qr52)
      case qh52 => (simp only [List.getElem?_toArray, List.getElem?_cons_succ, List.getElem?_cons_zero]; exact rfl)
      go_simp
      refine hK.out _ _ ?_
      clear hK K
      try simp only [Act.put, List.setIfInBounds_toArray, List.set_cons_zero, List.set_cons_succ]
      refine late_done (by kernel_rfl) ?_ _
      have P7 : PI X f 1 1 (.slice (some ⟨gE, 0, none⟩) 1 capE) (.slice (some ⟨gB, 0, none⟩) 1 capB) (.slice (some ⟨g1, 0, none⟩) 1 cap1) (.slice (some ⟨g2, 0, none⟩) 1 cap2) (es ++ [.int .i64 0]) [] _ _ ((wV.setCell ⟨gB, 0, none⟩ (.slice (some ⟨g1, 0, none⟩) 1 cap1)).setCell ⟨gB, 1, none⟩ (.slice (some ⟨g2, 0, none⟩) 1 cap2)) := PI_put (n := 0) RV.out.blk RV.out.oE RV.out.oB (by omega) hm (by omega) HP.out.len oV1.out how2 ne1.out
      have hb8 : Below X w ((wV.setCell ⟨gB, 0, none⟩ (.slice (some ⟨g1, 0, none⟩) 1 cap1)).setCell ⟨gB, 1, none⟩ (.slice (some ⟨g2, 0, none⟩) 1 cap2)) := (hb7.setCell (show X ≤ gB by have := (br_lt HP.out.oB gB rfl).1; omega) _).setCell (show X ≤ gB by have := (br_lt HP.out.oB gB rfl).1; omega) _
      generalize ((wV.setCell ⟨gB, 0, none⟩ (.slice (some ⟨g1, 0, none⟩) 1 cap1)).setCell ⟨gB, 1, none⟩ (.slice (some ⟨g2, 0, none⟩) 1 cap2)) = W7 at P7 hb8 ⊢
      have x0 := two_cell0 P7.blk
      have q0 : ∃ u, W7.cell? ⟨gE, 0, none⟩ = some u := ⟨_, (P7.oE.cellAt 0 (by omega)).trans (List.getElem?_eq_getElem (by have := P7.oE.1; omega))⟩
      obtain ⟨u0, q0⟩ := q0
      have q1 : W7.frozen? ⟨gE, 0, none⟩ = false := P7.oE.frozenAt _
      have q2 := (P7.oE.lt gE rfl).1
      have HF : Hid _ := P7
      clear P7 c1 c2 c3 c4 hCV2 v0 v1
      go_wp2
      go_end0
      exact ⟨rfl, ⟨_, _, _, _, _, _, _, _, HF.out.stored⟩, hb8.setCell (by simpa using Nat.le_of_succ_le q2) _⟩
  case qs35 =>
    go_simp
    refine hK.out _ _ (CY_of HR.out.alloc.drew hm rfl) ?_
    clear hK K
    try simp only [Act.put, List.setIfInBounds_toArray, List.set_cons_zero, List.set_cons_succ]
    refine late_one (i := 7) (o := ?qo53) (by kernel_rfl) ?qh53 (fun K hK => ?qr53)
    case qh53 => (simp only [List.getElem?_toArray, List.getElem?_cons_succ, List.getElem?_cons_zero]; exact rfl)
    go_simp
    refine hK.out _ _ (CY_of HR.out.alloc.alloc.drew hm rfl) ?_
    clear hK K
    try simp only [Act.put, List.setIfInBounds_toArray, List.set_cons_zero, List.set_cons_succ]
    refine late_one (i := 8) (o := ?qo54) (by kernel_rfl) ?qh54 (fun K hK => ?qr54)
    case qh54 => (simp only [List.getElem?_toArray, List.getElem?_cons_succ, List.getElem?_cons_zero]; exact rfl)
    refine step_append_lies _ (by rfl) (.tmp 87) (.tmp 89) 24 (by rfl) (X + 1) 2 i2 _ 1 8 Yba.underlying24 hi2 hz20 hz21 hz22 rfl (by omega) nilS 0 [] (by rfl) ((HP.out.o1.alloc _).alloc _).drew ⟨W5.heap.size + 1, 0, none⟩ 1 1 [.int .i64 en] (by rfl) (by rfl) (World.news_of_block (cs := #[.int .i64 en]) (t := 2) (fr := (0, 0)) (hp_drew (hp_new (by simp)))) (by simp [Value.oneCell']) (by omega) (by unfold maxLen; omega) (by omega) (by (try simp); omega) (W5.heap.size + 1 + 1) (by try simp) ?_
    intro g1 cap1 wE how1 hgr1 hat1 hlt1
    have RE : Hid _ := (HR.out.alloc.alloc.drew).grown hgr1 nX1.out nE1.out nB1.out
    have hEl : W5.heap.size < wE.heap.size := Nat.lt_of_lt_of_le (by simp <;> omega) hgr1.size
    refine hK.out _ _ (CY_of RE.out hm rfl) ?_
    clear hK K
    try simp only [Act.put, List.setIfInBounds_toArray, List.set_cons_zero, List.set_cons_succ]
    refine late_one (i := 15) (o := ?qo55) (by kernel_rfl) ?qh55 (fun K hK => ?qr55)
    case qh55 => (simp only [List.getElem?_toArray, List.getElem?_cons_succ, List.getElem?_cons_zero]; exact rfl)
    have hV1 := ow_grown hgr1 nVE.out ((HP.out.o2.alloc _).alloc _).drew
    have hE1 := how1
    have hS1 := RE.out
    refine step_append_lies _ (by rfl) (.tmp 94) (.tmp 96) 34 (by rfl) (X + 1) 3 i3 _ 1 8 Yba.underlying34 hi3 hz30 hz31 hz32 rfl (by omega) nilS 0 [] (by rfl) hV1 ⟨W5.heap.size, 0, none⟩ 1 1 [.int .i64 v] (by rfl) (by rfl) (World.news_of_block (cs := #[.int .i64 v]) (t := 3) (fr := (0, 0)) (hp_grown hgr1 (fun e0 => by have := (HP.out.o1.lt _ e0).2; omega) (hp_drew (hp_alloc (heap_alloc_new W5 _))))) (by simp [Value.oneCell']) (by omega) (by unfold maxLen; omega) (by omega) (by (try simp); omega) (wE.heap.size) (by try simp) ?_
    intro g2 cap2 wV how2 hgr2 hat2 hlt2
    have RV : Hid _ := hS1.grown hgr2 nX2.out nE2.out nB2.out
    have oV1 : Hid _ := ow_grown hgr2 (own_ne hE1 hV1 (by decide)) hE1
    have hCV := CY_of RV.out hm rfl
    refine hK.out _ _ (CY_of RV.out hm rfl) ?_
    clear hK K
    try simp only [Act.put, List.setIfInBounds_toArray, List.set_cons_zero, List.set_cons_succ]
    have hb6 := (((((hb5).alloc (Nat.le_of_lt hXl) (.cells #[.int .i64 v] 3)).alloc (by simp; omega) (.cells #[.int .i64 en] 2)).drew).grown hgr1 (by show X ≤ (World.alloc (World.alloc W5 _) _).heap.size; simp; omega) (fun k hk => by have := (HP.out.o1.lt k hk).1; omega))
    have hb7 : Below X w wV := hb6.grown hgr2 (by (try simp); omega) (fun k hk => by have := (HP.out.o2.lt k hk).1; omega)
    have ne1 : Hid _ := ne_after (cp := cap1) (k := 1) (vE := (.slice (some ⟨gE, 0, none⟩) 1 capE)) hat1 HP.out.ne (fun k hk => by have := hvl.out k hk; omega)
    have v0 := two_cell0 RV.out.blk
    have v1 := two_cell1 RV.out.blk
    obtain ⟨c1, c2, c3, c4⟩ := hCV
    have hCV2 : CY gB _ _ _ _ wV := ⟨c1, c2, c3, c4⟩
    refine late_pure (i := 16) (v := ?qv56) (oi := ?qo56) ?qh56 (by kernel_rfl) (by kernel_rfl) (by kernel_rfl) (by decide) ?qq56 (Or.inl ⟨?qw56, ?qy56⟩) (by assumption) ?qr56
    case qh56 => (simp only [List.getElem?_toArray, List.getElem?_cons_succ, List.getElem?_cons_zero]; exact rfl)
    case qq56 => exact fun _ _ _ h => h
    case qw56 => rfl
    case qy56 => (intro wx _; go_simp; try with_reducible rfl)
    try simp only [Act.put, List.setIfInBounds_toArray, List.set_cons_zero, List.set_cons_succ]
    refine late_pure (i := 17) (v := ?qv57) (oi := ?qo57) ?qh57 (by kernel_rfl) (by kernel_rfl) (by kernel_rfl) (by decide) ?qq57 (Or.inl ⟨?qw57, ?qy57⟩) (by assumption) ?qr57
    case qh57 => (simp only [List.getElem?_toArray, List.getElem?_cons_succ, List.getElem?_cons_zero]; exact rfl)
    case qq57 => exact fun _ _ _ h => h
    case qw57 => rfl
    case qy57 => (intro wx _; go_simp; try with_reducible rfl)
    try simp only [Act.put, List.setIfInBounds_toArray, List.set_cons_zero, List.set_cons_succ]
    refine late_rest 18 (by kernel_rfl) (by decide) (o := ?qo58) ?qh58 (fun K hK => ?qr58)
    case qh58 => (simp only [List.getElem?_toArray, List.getElem?_cons_succ, List.getElem?_cons_zero]; exact rfl)
    go_simp
    refine hK.out _ _ ?_
    clear hK K
    try simp only [Act.put, List.setIfInBounds_toArray, List.set_cons_zero, List.set_cons_succ]
    refine late_rest 19 (by kernel_rfl) (by decide) (o := ?qo59) ?qh59 (fun K hK => ?qr59)
    case qh59 => (simp only [List.getElem?_toArray, List.getElem?_cons_succ, List.getElem?_cons_zero]; exact rfl)
    go_simp
    refine hK.out _ _ ?_
    clear hK K
    try simp only [Act.put, List.setIfInBounds_toArray, List.set_cons_zero, List.set_cons_succ]
    refine late_rest 20 (by kernel_rfl) (by decide) (o := ?qo60) ?qh60 (fun K hK => ?qr60)
    case qh60 => (simp only [List.getElem?_toArray, List.getElem?_cons_succ, List.getElem?_cons_zero]; exact rfl)
    go_simp
    refine hK.out _ _ ?_
    clear hK K
    try simp only [Act.put, List.setIfInBounds_toArray, List.set_cons_zero, List.set_cons_succ]
    refine late_rest 21 (by kernel_rfl) (by decide) (o := ?qo61) ?qh61 (fun K hK => ?qr61)
    case qh61 => (simp only [List.getElem?_toArray, List.getElem?_cons_succ, List.getElem?_cons_zero]; exact rfl)
    go_simp
    refine hK.out _ _ ?_
    clear hK K
    try simp only [Act.put, List.setIfInBounds_toArray, List.set_cons_zero, List.set_cons_succ]
    refine late_done (by kernel_rfl) ?_ _
    have P7 : PI X f 1 1 (.slice (some ⟨gE, 0, none⟩) 1 capE) (.slice (some ⟨gB, 0, none⟩) 1 capB) (.slice (some ⟨g1, 0, none⟩) 1 cap1) (.slice (some ⟨g2, 0, none⟩) 1 cap2) (es ++ [.int .i64 0]) [] _ _ ((wV.setCell ⟨gB, 0, none⟩ (.slice (some ⟨g1, 0, none⟩) 1 cap1)).setCell ⟨gB, 1, none⟩ (.slice (some ⟨g2, 0, none⟩) 1 cap2)) := PI_put (n := 0) RV.out.blk RV.out.oE RV.out.oB (by omega) hm (by omega) HP.out.len oV1.out how2 ne1.out
    have hb8 : Below X w ((wV.setCell ⟨gB, 0, none⟩ (.slice (some ⟨g1, 0, none⟩) 1 cap1)).setCell ⟨gB, 1, none⟩ (.slice (some ⟨g2, 0, none⟩) 1 cap2)) := (hb7.setCell (show X ≤ gB by have := (br_lt HP.out.oB gB rfl).1; omega) _).setCell (show X ≤ gB by have := (br_lt HP.out.oB gB rfl).1; omega) _
    generalize ((wV.setCell ⟨gB, 0, none⟩ (.slice (some ⟨g1, 0, none⟩) 1 cap1)).setCell ⟨gB, 1, none⟩ (.slice (some ⟨g2, 0, none⟩) 1 cap2)) = W7 at P7 hb8 ⊢
    have x0 := two_cell0 P7.blk
    have q0 : ∃ u, W7.cell? ⟨gE, 0, none⟩ = some u := ⟨_, (P7.oE.cellAt 0 (by omega)).trans (List.getElem?_eq_getElem (by have := P7.oE.1; omega))⟩
    obtain ⟨u0, q0⟩ := q0
    have q1 : W7.frozen? ⟨gE, 0, none⟩ = false := P7.oE.frozenAt _
    have q2 := (P7.oE.lt gE rfl).1
    have HF : Hid _ := P7
    clear P7 c1 c2 c3 c4 hCV2 v0 v1
    go_wp2
    go_end0
    exact ⟨rfl, ⟨_, _, _, _, _, _, _, _, HF.out.stored⟩, hb8.setCell (by simpa using Nat.le_of_succ_le q2) _⟩
end Go.Proofs.Ybulkclmq
