/- The spill file's WriteAt. -/
import Derived.Test.YbulkclouPg1
import Derived.Test.YbulkclouLate
import Derived.BigRegion
namespace Go.Proofs.Ybulkclou.Pg
open Go.RowKit
set_option linter.unusedVariables false
set_option linter.unusedSimpArgs false
set_option maxRecDepth 100000

section
variable {w : World} {X i : Nat} {a b d e f : Value} {t : TypeId}
theorem four_cell0 (h : w.heap[X]? = some (.cells #[a, b, d, e] t (0, 0))) : w.cell? ⟨X, 0, none⟩ = some a := by simp [World.cell?, h]
theorem four_cell1 (h : w.heap[X]? = some (.cells #[a, b, d, e] t (0, 0))) : w.cell? ⟨X, 1, none⟩ = some b := by simp [World.cell?, h]
theorem four_cell2 (h : w.heap[X]? = some (.cells #[a, b, d, e] t (0, 0))) : w.cell? ⟨X, 2, none⟩ = some d := by simp [World.cell?, h]
theorem four_cell3 (h : w.heap[X]? = some (.cells #[a, b, d, e] t (0, 0))) : w.cell? ⟨X, 3, none⟩ = some e := by simp [World.cell?, h]
theorem blk_free {cs : Array Value} (h : w.heap[X]? = some (.cells cs t (0, 0))) : w.frozen? ⟨X, i, none⟩ = false := by simp [World.frozen?, h]
theorem five_cell0 (h : w.heap[X]? = some (.cells #[a, b, d, e, f] t (0, 0))) : w.cell? ⟨X, 0, none⟩ = some a := by simp [World.cell?, h]
theorem five_cell1 (h : w.heap[X]? = some (.cells #[a, b, d, e, f] t (0, 0))) : w.cell? ⟨X, 1, none⟩ = some b := by simp [World.cell?, h]
theorem five_cell2 (h : w.heap[X]? = some (.cells #[a, b, d, e, f] t (0, 0))) : w.cell? ⟨X, 2, none⟩ = some d := by simp [World.cell?, h]
theorem five_cell3 (h : w.heap[X]? = some (.cells #[a, b, d, e, f] t (0, 0))) : w.cell? ⟨X, 3, none⟩ = some e := by simp [World.cell?, h]
theorem five_cell4 (h : w.heap[X]? = some (.cells #[a, b, d, e, f] t (0, 0))) : w.cell? ⟨X, 4, none⟩ = some f := by simp [World.cell?, h]
variable {P SB : Nat} {en : Int} {vf : Value}
theorem FC_cell5 (h : w.heap[X]? = some (.cells (FC P SB en vf) 61 (0, 0))) : w.cell? ⟨X, 5, none⟩ = some (.int .i64 P) := by simp [World.cell?, h, FC]
theorem FC_cell10 (h : w.heap[X]? = some (.cells (FC P SB en vf) 61 (0, 0))) : w.cell? ⟨X, 10, none⟩ = some (.iface 50 (.pointer (some ⟨SB, 0, none⟩))) := by simp [World.cell?, h, FC]
theorem FC_cell11 (h : w.heap[X]? = some (.cells (FC P SB en vf) 61 (0, 0))) : w.cell? ⟨X, 11, none⟩ = some (.int .i64 en) := by simp [World.cell?, h, FC]
theorem FC_cell12 (h : w.heap[X]? = some (.cells (FC P SB en vf) 61 (0, 0))) : w.cell? ⟨X, 12, none⟩ = some vf := by simp [World.cell?, h, FC]
end

/-- What the loads of a drawn region read. -/
def C2 (a : Addr) (v : Value) (w : World) : Prop := w.cell? a = some v ∧ w.frozen? a = false

theorem own_news {w : World} {base e g n cap : Nat} {xs : List Value} (h : w.ownsRow base e 1 (.slice (some ⟨g, 0, none⟩) n cap) n xs) : ∀ j u, xs[j]? = some u → w.cell? ((⟨g, 0, none⟩ : Addr).add j) = some u := h.cells (g := g) rfl

theorem SI.grown0 {c : Cx} {vo vd vp : Value} {dv : List Value} {os : List Int} {pgs : List (List Int)} {bs ps : List Int} {sz : Int} {er : Value} {fl : Nat} {en : Int} {vD : Value} {xD : List Int} {w w1 : World}
    (h : SI c vo vd vp dv os pgs bs ps sz er fl en vD xD w) (hg : w.grownBy w1 (Value.slice none 0 0).ownBlock) : SI c vo vd vp dv os pgs bs ps sz er fl en vD xD w1 :=
  h.keep (h.bel.grown hg h.le (fun k hk => by simp [Value.ownBlock] at hk)) (Nat.le_trans h.le hg.size) (fun T g cs hh => hp_grown hg (by simp [Value.ownBlock]) hh)

theorem SI.drewN {c : Cx} {vo vd vp : Value} {dv : List Value} {os : List Int} {pgs : List (List Int)} {bs ps : List Int} {sz : Int} {er : Value} {fl : Nat} {en : Int} {vD : Value} {xD : List Int} {w : World}
    (h : SI c vo vd vp dv os pgs bs ps sz er fl en vD xD w) (k : Nat) : SI c vo vd vp dv os pgs bs ps sz er fl en vD xD (w.drewN k) :=
  h.keep ⟨h.bel.os, h.bel.tape, h.bel.output, h.bel.size, h.bel.block⟩ h.le (fun T g cs hh => hh)

set_option maxHeartbeats 2000000 in
theorem writeAt (c : Cx) (vo vd vp : Value) (dv : List Value) (os : List Int) (pgs : List (List Int)) (bs ps : List Int) (sz : Int) (er : Value) (fl : Nat) (en : Int) (vD : Value) (xD : List Int) (w : World) (off : Int)
    (h : SI c vo vd vp dv os pgs bs ps sz er fl en vD xD w) (hP : 1 ≤ c.P) (hP2 : c.P ≤ 16) (hbs : bs.length = c.P) (hk : os.length ≤ 5000) (hk2 : pgs.length ≤ 5000) (hF : c.F ≤ 7) :
    Calls Yba.prog 39 #[.pointer (some ⟨c.SB, 0, none⟩), .slice (some ⟨c.BB, 0, none⟩) bs.length c.P, .int .i64 off] w fun e w' =>
      (os.length + 1 = c.F → e = .returned (.tuple #[.int .i64 0, .iface 75 (.pointer (some ⟨c.EB, 0, none⟩))])) ∧ (os.length + 1 ≠ c.F → e = .returned (.tuple #[.int .i64 bs.length, .nilIface])) ∧
      ∃ vo' vd' dv', SI c vo' vd' vp dv' (os ++ [off]) (pgs ++ [bs]) bs ps sz er fl en vD xD w' := by
  obtain ⟨i2, hi2, hz20, hz21, hz22⟩ := info_parts info2
  obtain ⟨i5, hi5, hz50, hz51, hz52⟩ := info_parts info5
  obtain ⟨i33, hi33, hz330, hz331, hz332⟩ := info_parts info33
  have x0 := four_cell0 h.stub
  have hl := lt_of_block h.stub
  have H : Hid _ := h
  have hb1 : 1 ≤ bs.length := by omega
  have hb2 : bs.length ≤ 16 := by omega
  clear h hbs
  go_enter Yba.func39, Yba.ntmps39
  go_wp2_with (at_builtin; refine wpList_append_lies _ rfl _ _ _ rfl c.base 2 i2 _ 1 8 Yba.underlying48 hi2 hz20 hz21 hz22 rfl (by omega) vo os.length (i6 os) rfl (H.out.alloc _).oo ⟨w.heap.size, 0, none⟩ 1 1 [.int .i64 off] rfl rfl (World.news_of_block (cs := #[.int .i64 off]) (t := 2) (fr := (0, 0)) (heap_alloc_new w _)) (one6 [off]) (by omega) (by unfold maxLen; omega) (by omega) (H.out.alloc _).le _ rfl ?_; intro g cap w1 how hgr hat hlt; have y0 := four_cell0 (kp_own (H.out.alloc _).oo hgr (by decide) _ _ (H.out.alloc _).stub); have y1 : w1.frozen? ⟨c.SB, 0, none⟩ = false := blk_free (kp_own (H.out.alloc _).oo hgr (by decide) _ _ (H.out.alloc _).stub))
  have h2 := (H.out.alloc _).addOff hgr rfl how hat rfl
  generalize w1.setCell ⟨c.SB, 0, none⟩ (.slice (some ⟨g, 0, none⟩) (os.length + 1) cap) = w2 at h2 ⊢
  have H2 : Hid _ := h2
  have hC0 : C2 ⟨c.SB, 1, none⟩ vd w2.drew := ⟨four_cell1 h2.drew.stub, blk_free h2.drew.stub⟩
  clear h2 H x0 y0 y1 how hgr hat hlt
  refine wp_region_late 11 (C2 ⟨c.SB, 1, none⟩ vd) (by kernel_rfl) hC0 (fun hC => ?_)
  refine late_pure (i := 0) (v := ?qv1) (oi := ?qo1) ?qh1 (by kernel_rfl) (by kernel_rfl) (by kernel_rfl) (by decide) ?qq1 (Or.inl ⟨?qw1, ?qy1⟩) (by assumption) ?qr1
  case qh1 => (simp only [List.getElem?_toArray, List.getElem?_cons_succ, List.getElem?_cons_zero]; exact rfl)
  case qq1 => exact fun _ _ _ h => h
  case qw1 => rfl
  case qy1 => (intro wx _; go_simp; try with_reducible rfl)
  try simp only [Act.put, List.setIfInBounds_toArray, List.set_cons_zero, List.set_cons_succ]
  refine late_pure (i := 1) (v := ?qv2) (oi := ?qo2) ?qh2 (by kernel_rfl) (by kernel_rfl) (by kernel_rfl) (by decide) ?qq2 (Or.inl ⟨?qw2, ?qy2⟩) (by assumption) ?qr2
  case qh2 => (simp only [List.getElem?_toArray, List.getElem?_cons_succ, List.getElem?_cons_zero]; exact rfl)
  case qq2 => exact fun _ _ _ h => h
  case qw2 => rfl
  case qy2 => (intro wx _; go_simp; try with_reducible rfl)
  try simp only [Act.put, List.setIfInBounds_toArray, List.set_cons_zero, List.set_cons_succ]
  refine late_pure (i := 2) (v := ?qv3) (oi := ?qo3) ?qh3 (by kernel_rfl) (by kernel_rfl) (by kernel_rfl) (by decide) ?qq3 (Or.inl ⟨?qw3, ?qy3⟩) (by assumption) ?qr3
  case qh3 => (simp only [List.getElem?_toArray, List.getElem?_cons_succ, List.getElem?_cons_zero]; exact rfl)
  case qq3 => exact fun _ _ _ h => h
  case qw3 => rfl
  case qy3 => (intro wx _; go_simp; try with_reducible rfl)
  try simp only [Act.put, List.setIfInBounds_toArray, List.set_cons_zero, List.set_cons_succ]
  refine late_pure (i := 3) (v := ?qv4) (oi := ?qo4) ?qh4 (by kernel_rfl) (by kernel_rfl) (by kernel_rfl) (by decide) ?qq4 (Or.inl ⟨?qw4, ?qy4⟩) (by assumption) ?qr4
  case qh4 => (simp only [List.getElem?_toArray, List.getElem?_cons_succ, List.getElem?_cons_zero]; exact rfl)
  case qq4 => exact fun _ _ _ h => h
  case qw4 => rfl
  case qy4 => (intro wx _; go_simp; try with_reducible rfl)
  try simp only [Act.put, List.setIfInBounds_toArray, List.set_cons_zero, List.set_cons_succ]
  refine late_load (i := 4) (v := ?qv5) (oi := ?qo5) ?qh5 (by kernel_rfl) (by kernel_rfl) (by kernel_rfl) (by kernel_rfl) (by kernel_rfl) (by decide) ?qq5 (Or.inl ⟨?qw5, ?qy5⟩) (by assumption) ?qr5
  case qh5 => (simp only [List.getElem?_toArray, List.getElem?_cons_succ, List.getElem?_cons_zero]; exact rfl)
  case qq5 => exact fun _ _ _ h => h
  case qw5 => rfl
  case qy5 => (intro wx hSw; (try dsimp only at hSw); obtain ⟨s1, s2⟩ := hSw; go_simp; try with_reducible rfl)
  try simp only [Act.put, List.setIfInBounds_toArray, List.set_cons_zero, List.set_cons_succ]
  refine late_pure (i := 5) (v := ?qv6) (oi := ?qo6) ?qh6 (by kernel_rfl) (by kernel_rfl) (by kernel_rfl) (by decide) ?qq6 (Or.inl ⟨?qw6, ?qy6⟩) (by assumption) ?qr6
  case qh6 => (simp only [List.getElem?_toArray, List.getElem?_cons_succ, List.getElem?_cons_zero]; exact rfl)
  case qq6 => exact fun _ _ _ h => h
  case qw6 => rfl
  case qy6 => (intro wx _; go_simp; try with_reducible rfl)
  try simp only [Act.put, List.setIfInBounds_toArray, List.set_cons_zero, List.set_cons_succ]
  refine late_one (i := 6) (o := ?qo7) (by kernel_rfl) ?qh7 (fun K hK => ?qr7)
  case qh7 => (simp only [List.getElem?_toArray, List.getElem?_cons_succ, List.getElem?_cons_zero]; exact rfl)
  refine step_append_lies _ (by rfl) (.const (.slice none 0 0)) (.tmp 23) 33 (by rfl) c.base 5 i5 _ 1 1 Yba.underlying33 hi5 hz50 hz51 hz52 rfl (by omega) (.slice none 0 0) 0 [] (by rfl) (World.ownsRow_nil _ _ _ _) ⟨c.BB, 0, none⟩ bs.length c.P (by8 bs) (by rfl) (by simp) (own_news H2.out.drew.ob) (one8 _) (by omega) (by unfold maxLen; omega) (by omega) H2.out.le w2.heap.size rfl ?_
  intro G cp w3 how3 hgr3 hat3 hlt3
  have hG : Hid (G = w2.heap.size) := by rcases hat3 with h' | h'; (simp [Value.ownBlock] at h'); exact h'
  have h3 := H2.out.drew.grown0 hgr3
  simp only [Nat.zero_add, List.nil_append] at how3 ⊢
  have hC3 : C2 ⟨c.SB, 1, none⟩ vd w3 := ⟨four_cell1 h3.stub, blk_free h3.stub⟩
  refine hK.out _ _ hC3 ?_
  clear hK K
  try simp only [Act.put, List.setIfInBounds_toArray, List.set_cons_zero, List.set_cons_succ]
  refine late_one (i := 7) (o := ?qo8) (by kernel_rfl) ?qh8 (fun K hK => ?qr8)
  case qh8 => (simp only [List.getElem?_toArray, List.getElem?_cons_succ, List.getElem?_cons_zero]; exact rfl)
  go_simp
  have h4 := h3.alloc (.cells #[.slice (some ⟨G, 0, none⟩) bs.length cp] 33)
  have hC4 : C2 ⟨c.SB, 1, none⟩ vd (w3.alloc (.cells #[.slice (some ⟨G, 0, none⟩) bs.length cp] 33)) := ⟨four_cell1 h4.stub, blk_free h4.stub⟩
  refine hK.out _ _ hC4 ?_
  clear hK K
  try simp only [Act.put, List.setIfInBounds_toArray, List.set_cons_zero, List.set_cons_succ]
  refine late_one (i := 8) (o := ?qo9) (by kernel_rfl) ?qh9 (fun K hK => ?qr9)
  case qh9 => (simp only [List.getElem?_toArray, List.getElem?_cons_succ, List.getElem?_cons_zero]; exact rfl)
  refine step_append_lies _ (by rfl) (.tmp 22) (.tmp 25) 47 (by rfl) c.base 33 i33 _ 1 24 Yba.underlying47 hi33 hz330 hz331 hz332 rfl (by omega) vd pgs.length dv (by rfl) h4.od ⟨w3.heap.size, 0, none⟩ 1 1 [.slice (some ⟨G, 0, none⟩) bs.length cp] (by rfl) (by rfl) (World.news_of_block (cs := #[.slice (some ⟨G, 0, none⟩) bs.length cp]) (t := 33) (fr := (0, 0)) (heap_alloc_new w3 _)) (by simp [Value.oneCell']) (by omega) (by unfold maxLen; omega) (by omega) h4.le _ rfl ?_
  intro g5 cap5 w5 how5 hgr5 hat5 hlt5
  have hst5 := kp_own (T := 53) h4.od hgr5 (by decide) _ _ h4.stub
  have hC5 : C2 ⟨c.SB, 1, none⟩ vd w5 := ⟨four_cell1 hst5, blk_free hst5⟩
  have h6 := h4.addPg (p := bs) hgr5 rfl rfl (ow_kp how3 kp_alloc) (by have := (H2.out.ob.lt c.BB rfl).2; have := hG.out; omega) (by intro e0; have := (H2.out.oD.lt G e0).2; have := hG.out; omega) how5
  refine hK.out _ _ hC5 ?_
  clear hK K
  try simp only [Act.put, List.setIfInBounds_toArray, List.set_cons_zero, List.set_cons_succ]
  have hC6 := hC5
  obtain ⟨s1, s2⟩ := hC6
  have H6 : Hid _ := h6
  clear h6 h3 h4 how3 hgr3 hat3 hlt3 how5 hgr5 hat5 hlt5 hst5 hC0 hC3 hC4
  refine late_pure (i := 9) (v := ?qv10) (oi := ?qo10) ?qh10 (by kernel_rfl) (by kernel_rfl) (by kernel_rfl) (by decide) ?qq10 (Or.inl ⟨?qw10, ?qy10⟩) (by assumption) ?qr10
  case qh10 => (simp only [List.getElem?_toArray, List.getElem?_cons_succ, List.getElem?_cons_zero]; exact rfl)
  case qq10 => exact fun _ _ _ h => h
  case qw10 => rfl
  case qy10 => (intro wx _; go_simp; try with_reducible rfl)
  try simp only [Act.put, List.setIfInBounds_toArray, List.set_cons_zero, List.set_cons_succ]
  refine late_pure (i := 10) (v := ?qv11) (oi := ?qo11) ?qh11 (by kernel_rfl) (by kernel_rfl) (by kernel_rfl) (by decide) ?qq11 (Or.inl ⟨?qw11, ?qy11⟩) (by assumption) ?qr11
  case qh11 => (simp only [List.getElem?_toArray, List.getElem?_cons_succ, List.getElem?_cons_zero]; exact rfl)
  case qq11 => exact fun _ _ _ h => h
  case qw11 => rfl
  case qy11 => (intro wx _; go_simp; try with_reducible rfl)
  try simp only [Act.put, List.setIfInBounds_toArray, List.set_cons_zero, List.set_cons_succ]
  refine late_rest 11 (by kernel_rfl) (by decide) (o := ?qo12) ?qh12 (fun K hK => ?qr12)
  case qh12 => (simp only [List.getElem?_toArray, List.getElem?_cons_succ, List.getElem?_cons_zero]; exact rfl)
  go_simp
  refine hK.out _ _ ?_
  clear hK K
  try simp only [Act.put, List.setIfInBounds_toArray, List.set_cons_zero, List.set_cons_succ]
  refine late_done (by kernel_rfl) ?_ _
  have h6 := H6.out
  generalize w5.setCell ⟨c.SB, 1, none⟩ (.slice (some ⟨g5, 0, none⟩) (pgs.length + 1) cap5) = w6 at h6 ⊢
  have z0 := four_cell0 h6.stub
  have z2 := four_cell2 h6.stub
  have z3 := four_cell3 h6.stub
  have H7 : Hid _ := h6
  clear h6 H6 s1 s2 hC hC5 H2
  by_cases hf : os.length + 1 = c.F
  · have hb1 : ((os.length : Int) + 1 == (c.F : Int)) = true := by simp; omega
    have hb2 : ((os.length : Int) + 1 = (c.F : Int)) := by omega
    go_wp2
    go_quiet (fail)
    go_wp2
    go_quiet (fail)
    go_wp2
    go_ret2
    exact ⟨fun _ => rfl, fun h => absurd hf h, _, _, _, (H7.out.drewN _).drewN _⟩
  · have hb1 : ((os.length : Int) + 1 == (c.F : Int)) = false := by simp; omega
    have hb2 : ¬ ((os.length : Int) + 1 = (c.F : Int)) := by omega
    go_wp2
    go_quiet (fail)
    go_wp2
    go_ret2
    exact ⟨fun h => absurd h hf, fun _ => rfl, _, _, _, H7.out.drewN _⟩

end Go.Proofs.Ybulkclou.Pg
