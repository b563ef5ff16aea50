import Derived.Test.YbulkclmqRows
import Derived.Test.YbulkclmqPushP
import Derived.Test.YbulkclmqLate
import Derived.Test.YbulkclmqPushNil
import Derived.WalkKit
import Derived.WalkSmall
import Derived.WalkLawsBesides
import Derived.BigRegion
import Derived.Deep.AppendLies
import Derived.Deep.DeepMust
namespace Go.Proofs.Ybulkclmq
open Go.RowKit
set_option linter.unusedVariables false
set_option linter.unusedSimpArgs false


set_option maxHeartbeats 4000000 in
theorem push_old (X f nb n gE capE gB capB hE cE hV cV : Nat) (en v : Int) (es bs xE xV : List Value) (w : World) (hf5 : f ≤ 5) (hnb : 1 ≤ nb) (hnb2 : nb ≤ 1024) (hn : 1 ≤ n) (hnf : n < f)
    (h : PI X f nb n (.slice (some ⟨gE, 0, none⟩) nb capE) (.slice (some ⟨gB, 0, none⟩) nb capB) (.slice (some ⟨hE, 0, none⟩) n cE) (.slice (some ⟨hV, 0, none⟩) n cV) es bs xE xV w) :
    Calls Yba.prog 5 #[.pointer (some ⟨X, 0, none⟩), .int .i64 en, .int .i64 v, .int .i64 f] w fun e w' => e = .returned (.tuple #[]) ∧ (∃ vE vB sE sV es bs xE xV, PI X f nb (n + 1) vE vB sE sV es bs xE xV w') ∧ Below X w w' := by
  obtain ⟨i2, hi2, hz20, hz21, hz22⟩ := info_parts Yba.info2
  obtain ⟨i3, hi3, hz30, hz31, hz32⟩ := info_parts Yba.info3
  have hX := two_lt h.blk
  have hlb := h.hbs
  have x1 := two_cell1 h.blk
  have x0 := two_cell0 h.blk
  have xl := two_lt h.blk
  have bE := h.cellE (m := ((nb - 1) * 2)) (by omega)
  have bV := h.cellV (m := ((nb - 1) * 2)) (by omega)
  have bfE : w.frozen? ⟨gB, ((nb - 1) * 2), none⟩ = false := br_free h.oB _
  have bfV : w.frozen? ⟨gB, ((nb - 1) * 2 + 1), none⟩ = false := br_free h.oB _
  have bl := (br_lt h.oB gB rfl).2
  have bX := (br_lt h.oB gB rfl).1
  have P5 : Hid _ := h
  clear h
  go_enter Yba.func5, Yba.ntmps5
  go_wp2
  have P5 := P5.out
  clear x1 x0 xl bE bV bfE bfV bl bX
  have hm : (bs : List Value).length = ((nb - 1) * 2) := hlb
  have HP : Hid _ := P5
  have HR : Hid _ := P5.rs
  have nX1 : Hid _ := P5.nX1
  have nX2 : Hid _ := P5.nX2
  have nE1 : Hid _ := P5.nE1
  have nE2 : Hid _ := P5.nE2
  have nB1 : Hid _ := P5.nB1
  have nB2 : Hid _ := P5.nB2
  have nVE : Hid _ := P5.nVE
  have hXl := two_lt P5.blk
  have hvl : Hid (∀ k, Value.ownBlock (.slice (some ⟨gE, 0, none⟩) nb capE) = some k → k < w.heap.size) := fun k hk => (P5.oE.lt k hk).2
  clear P5
  refine wp_region_late 18 (CY gB ((nb - 1) * 2) ((nb - 1) * 2 + 1) (.slice (some ⟨hE, 0, none⟩) n cE) (.slice (some ⟨hV, 0, none⟩) n cV)) (by kernel_rfl) (CY_of (HR.out.drew) hm rfl) (fun hC => ?_)
  refine late_pure (i := 0) (v := ?qv62) (oi := ?qo62) ?qh62 (by kernel_rfl) (by kernel_rfl) (by kernel_rfl) (by decide) ?qq62 (Or.inl ⟨?qw62, ?qy62⟩) (by assumption) ?qr62
  case qh62 => (simp only [List.getElem?_toArray, List.getElem?_cons_succ, List.getElem?_cons_zero]; exact rfl)
  case qq62 => exact fun _ _ _ h => h
  case qw62 => rfl
  case qy62 => (intro wx _; go_simp; try with_reducible rfl)
  try simp only [Act.put, List.setIfInBounds_toArray, List.set_cons_zero, List.set_cons_succ]
  refine late_pure (i := 1) (v := ?qv63) (oi := ?qo63) ?qh63 (by kernel_rfl) (by kernel_rfl) (by kernel_rfl) (by decide) ?qq63 (Or.inl ⟨?qw63, ?qy63⟩) (by assumption) ?qr63
  case qh63 => (simp only [List.getElem?_toArray, List.getElem?_cons_succ, List.getElem?_cons_zero]; exact rfl)
  case qq63 => exact fun _ _ _ h => h
  case qw63 => rfl
  case qy63 => (intro wx _; go_simp; try with_reducible rfl)
  try simp only [Act.put, List.setIfInBounds_toArray, List.set_cons_zero, List.set_cons_succ]
  refine late_pure (i := 2) (v := ?qv64) (oi := ?qo64) ?qh64 (by kernel_rfl) (by kernel_rfl) (by kernel_rfl) (by decide) ?qq64 (Or.inl ⟨?qw64, ?qy64⟩) (by assumption) ?qr64
  case qh64 => (simp only [List.getElem?_toArray, List.getElem?_cons_succ, List.getElem?_cons_zero]; exact rfl)
  case qq64 => exact fun _ _ _ h => h
  case qw64 => rfl
  case qy64 => (intro wx _; go_simp; try with_reducible rfl)
  try simp only [Act.put, List.setIfInBounds_toArray, List.set_cons_zero, List.set_cons_succ]
  refine late_pure (i := 3) (v := ?qv65) (oi := ?qo65) ?qh65 (by kernel_rfl) (by kernel_rfl) (by kernel_rfl) (by decide) ?qq65 (Or.inl ⟨?qw65, ?qy65⟩) (by assumption) ?qr65
  case qh65 => (simp only [List.getElem?_toArray, List.getElem?_cons_succ, List.getElem?_cons_zero]; exact rfl)
  case qq65 => exact fun _ _ _ h => h
  case qw65 => rfl
  case qy65 => (intro wx _; go_simp; try with_reducible rfl)
  try simp only [Act.put, List.setIfInBounds_toArray, List.set_cons_zero, List.set_cons_succ]
  refine late_pure (i := 4) (v := ?qv66) (oi := ?qo66) ?qh66 (by kernel_rfl) (by kernel_rfl) (by kernel_rfl) (by decide) ?qq66 (Or.inl ⟨?qw66, ?qy66⟩) (by assumption) ?qr66
  case qh66 => (simp only [List.getElem?_toArray, List.getElem?_cons_succ, List.getElem?_cons_zero]; exact rfl)
  case qq66 => exact fun _ _ _ h => h
  case qw66 => rfl
  case qy66 => (intro wx _; go_simp; try with_reducible rfl)
  try simp only [Act.put, List.setIfInBounds_toArray, List.set_cons_zero, List.set_cons_succ]
  refine late_load (i := 5) (v := ?qv67) (oi := ?qo67) ?qh67 (by kernel_rfl) (by kernel_rfl) (by kernel_rfl) (by kernel_rfl) (by kernel_rfl) (by decide) ?qq67 (Or.inl ⟨?qw67, ?qy67⟩) (by assumption) ?qr67
  case qh67 => (simp only [List.getElem?_toArray, List.getElem?_cons_succ, List.getElem?_cons_zero]; exact rfl)
  case qq67 => exact fun _ _ _ h => h
  case qw67 => rfl
  case qy67 => (intro wx hSw; (try dsimp only at hSw); obtain ⟨s1, s2, s3, s4⟩ := hSw; go_simp; try with_reducible rfl)
  try simp only [Act.put, List.setIfInBounds_toArray, List.set_cons_zero, List.set_cons_succ]
  refine late_pure (i := 6) (v := ?qv68) (oi := ?qo68) ?qh68 (by kernel_rfl) (by kernel_rfl) (by kernel_rfl) (by decide) ?qq68 (Or.inl ⟨?qw68, ?qy68⟩) (by assumption) ?qr68
  case qh68 => (simp only [List.getElem?_toArray, List.getElem?_cons_succ, List.getElem?_cons_zero]; exact rfl)
  case qq68 => exact fun _ _ _ h => h
  case qw68 => rfl
  case qy68 => (intro wx _; go_simp; try with_reducible rfl)
  try simp only [Act.put, List.setIfInBounds_toArray, List.set_cons_zero, List.set_cons_succ]
  refine late_pure (i := 9) (v := ?qv69) (oi := ?qo69) ?qh69 (by kernel_rfl) (by kernel_rfl) (by kernel_rfl) (by decide) ?qq69 (Or.inl ⟨?qw69, ?qy69⟩) (by assumption) ?qr69
  case qh69 => (simp only [List.getElem?_toArray, List.getElem?_cons_succ, List.getElem?_cons_zero]; exact rfl)
  case qq69 => exact fun _ _ _ h => h
  case qw69 => rfl
  case qy69 => (intro wx _; go_simp; try with_reducible rfl)
  try simp only [Act.put, List.setIfInBounds_toArray, List.set_cons_zero, List.set_cons_succ]
  refine late_pure (i := 10) (v := ?qv70) (oi := ?qo70) ?qh70 (by kernel_rfl) (by kernel_rfl) (by kernel_rfl) (by decide) ?qq70 (Or.inl ⟨?qw70, ?qy70⟩) (by assumption) ?qr70
  case qh70 => (simp only [List.getElem?_toArray, List.getElem?_cons_succ, List.getElem?_cons_zero]; exact rfl)
  case qq70 => exact fun _ _ _ h => h
  case qw70 => rfl
  case qy70 => (intro wx _; go_simp; try with_reducible rfl)
  try simp only [Act.put, List.setIfInBounds_toArray, List.set_cons_zero, List.set_cons_succ]
  refine late_pure (i := 11) (v := ?qv71) (oi := ?qo71) ?qh71 (by kernel_rfl) (by kernel_rfl) (by kernel_rfl) (by decide) ?qq71 (Or.inl ⟨?qw71, ?qy71⟩) (by assumption) ?qr71
  case qh71 => (simp only [List.getElem?_toArray, List.getElem?_cons_succ, List.getElem?_cons_zero]; exact rfl)
  case qq71 => exact fun _ _ _ h => h
  case qw71 => rfl
  case qy71 => (intro wx _; go_simp; try with_reducible rfl)
  try simp only [Act.put, List.setIfInBounds_toArray, List.set_cons_zero, List.set_cons_succ]
  refine late_load (i := 12) (v := ?qv72) (oi := ?qo72) ?qh72 (by kernel_rfl) (by kernel_rfl) (by kernel_rfl) (by kernel_rfl) (by kernel_rfl) (by decide) ?qq72 (Or.inl ⟨?qw72, ?qy72⟩) (by assumption) ?qr72
  case qh72 => (simp only [List.getElem?_toArray, List.getElem?_cons_succ, List.getElem?_cons_zero]; exact rfl)
  case qq72 => exact fun _ _ _ h => h
  case qw72 => rfl
  case qy72 => (intro wx hSw; (try dsimp only at hSw); obtain ⟨s1, s2, s3, s4⟩ := hSw; go_simp; try with_reducible rfl)
  try simp only [Act.put, List.setIfInBounds_toArray, List.set_cons_zero, List.set_cons_succ]
  refine late_pure (i := 13) (v := ?qv73) (oi := ?qo73) ?qh73 (by kernel_rfl) (by kernel_rfl) (by kernel_rfl) (by decide) ?qq73 (Or.inl ⟨?qw73, ?qy73⟩) (by assumption) ?qr73
  case qh73 => (simp only [List.getElem?_toArray, List.getElem?_cons_succ, List.getElem?_cons_zero]; exact rfl)
  case qq73 => exact fun _ _ _ h => h
  case qw73 => rfl
  case qy73 => (intro wx _; go_simp; try with_reducible rfl)
  try simp only [Act.put, List.setIfInBounds_toArray, List.set_cons_zero, List.set_cons_succ]
  refine late_two (i := 7) (j := 14) (o := ?qo74) (o' := ?qp74) (by kernel_rfl) ?qh74 ?qi74 (fun K hK => ?qr74) (fun K hK => ?qs74)
  case qh74 => (simp only [List.getElem?_toArray, List.getElem?_cons_succ, List.getElem?_cons_zero]; exact rfl)
  case qi74 => (simp only [List.getElem?_toArray, List.getElem?_cons_succ, List.getElem?_cons_zero]; exact rfl)
  case qr74 =>
    go_simp
    refine hK.out _ _ (CY_of HR.out.alloc.drew hm rfl) ?_
    clear hK K
    try simp only [Act.put, List.setIfInBounds_toArray, List.set_cons_zero, List.set_cons_succ]
    refine late_two (i := 8) (j := 14) (o := ?qo75) (o' := ?qp75) (by kernel_rfl) ?qh75 ?qi75 (fun K hK => ?qr75) (fun K hK => ?qs75)
    case qh75 => (simp only [List.getElem?_toArray, List.getElem?_cons_succ, List.getElem?_cons_zero]; exact rfl)
    case qi75 => (simp only [List.getElem?_toArray, List.getElem?_cons_succ, List.getElem?_cons_zero]; exact rfl)
    case qr75 =>
      refine step_append_lies _ (by rfl) (.tmp 87) (.tmp 89) 24 (by rfl) (X + 1) 2 i2 _ 1 8 Yba.underlying24 hi2 hz20 hz21 hz22 rfl (by omega) (.slice (some ⟨hE, 0, none⟩) n cE) n xE (by rfl) (HP.out.o1.alloc _).drew ⟨w.heap.size, 0, none⟩ 1 1 [.int .i64 en] (by rfl) (by rfl) (World.news_of_block (cs := #[.int .i64 en]) (t := 2) (fr := (0, 0)) (heap_alloc_new w _)) (by simp [Value.oneCell']) (by omega) (by unfold maxLen; omega) (by omega) (by (try simp); omega) (w.heap.size + 1) (by try simp) ?_
      intro g1 cap1 wE how1 hgr1 hat1 hlt1
      have RE : Hid _ := (HR.out.alloc.drew).grown hgr1 nX1.out nE1.out nB1.out
      have hEl : w.heap.size < wE.heap.size := Nat.lt_of_lt_of_le (by simp <;> omega) hgr1.size
      refine hK.out _ _ (CY_of RE.out hm rfl) ?_
      clear hK K
      try simp only [Act.put, List.setIfInBounds_toArray, List.set_cons_zero, List.set_cons_succ]
      refine late_one (i := 14) (o := ?qo76) (by kernel_rfl) ?qh76 (fun K hK => ?qr76)
      case qh76 => (simp only [List.getElem?_toArray, List.getElem?_cons_succ, List.getElem?_cons_zero]; exact rfl)
      go_simp
      refine hK.out _ _ (CY_of RE.out.alloc hm rfl) ?_
      clear hK K
      try simp only [Act.put, List.setIfInBounds_toArray, List.set_cons_zero, List.set_cons_succ]
      refine late_one (i := 15) (o := ?qo77) (by kernel_rfl) ?qh77 (fun K hK => ?qr77)
      case qh77 => (simp only [List.getElem?_toArray, List.getElem?_cons_succ, List.getElem?_cons_zero]; exact rfl)
      have hV1 := ow_alloc (o := .cells #[.int .i64 v] 3) (ow_grown hgr1 nVE.out (HP.out.o2.alloc _).drew)
      have hE1 := ow_alloc (o := .cells #[.int .i64 v] 3) how1
      have hS1 := RE.out.alloc (o := .cells #[.int .i64 v] 3)
      refine step_append_lies _ (by rfl) (.tmp 94) (.tmp 96) 34 (by rfl) (X + 1) 3 i3 _ 1 8 Yba.underlying34 hi3 hz30 hz31 hz32 rfl (by omega) (.slice (some ⟨hV, 0, none⟩) n cV) n xV (by rfl) hV1 ⟨wE.heap.size, 0, none⟩ 1 1 [.int .i64 v] (by rfl) (by rfl) (World.news_of_block (cs := #[.int .i64 v]) (t := 3) (fr := (0, 0)) (heap_alloc_new wE _)) (by simp [Value.oneCell']) (by omega) (by unfold maxLen; omega) (by omega) (by (try simp); omega) (wE.heap.size + 1) (by try simp) ?_
      intro g2 cap2 wV how2 hgr2 hat2 hlt2
      have RV : Hid _ := hS1.grown hgr2 nX2.out nE2.out nB2.out
      have oV1 : Hid _ := ow_grown hgr2 (own_ne hE1 hV1 (by decide)) hE1
      have hCV := CY_of RV.out hm rfl
      refine hK.out _ _ (CY_of RV.out hm rfl) ?_
      clear hK K
      try simp only [Act.put, List.setIfInBounds_toArray, List.set_cons_zero, List.set_cons_succ]
      have hb6 := (((((Below.refl X w)).alloc (Nat.le_of_lt hXl) (.cells #[.int .i64 en] 2)).drew).grown hgr1 (by show X ≤ (World.alloc w _).heap.size; simp; omega) (fun k hk => by have := (HP.out.o1.lt k hk).1; omega)).alloc (by omega) (.cells #[.int .i64 v] 3)
      have hb7 : Below X w wV := hb6.grown hgr2 (by (try simp); omega) (fun k hk => by have := (HP.out.o2.lt k hk).1; omega)
      have ne1 : Hid _ := ne_after (cp := cap1) (k := (n + 1)) (vE := (.slice (some ⟨gE, 0, none⟩) nb capE)) hat1 HP.out.ne (fun k hk => by have := hvl.out k hk; omega)
      have v0 := two_cell0 RV.out.blk
      have v1 := two_cell1 RV.out.blk
      obtain ⟨c1, c2, c3, c4⟩ := hCV
      have hCV2 : CY gB _ _ _ _ wV := ⟨c1, c2, c3, c4⟩
      refine late_pure (i := 16) (v := ?qv78) (oi := ?qo78) ?qh78 (by kernel_rfl) (by kernel_rfl) (by kernel_rfl) (by decide) ?qq78 (Or.inl ⟨?qw78, ?qy78⟩) (by assumption) ?qr78
      case qh78 => (simp only [List.getElem?_toArray, List.getElem?_cons_succ, List.getElem?_cons_zero]; exact rfl)
      case qq78 => exact fun _ _ _ h => h
      case qw78 => rfl
      case qy78 => (intro wx _; go_simp; try with_reducible rfl)
      try simp only [Act.put, List.setIfInBounds_toArray, List.set_cons_zero, List.set_cons_succ]
      refine late_pure (i := 17) (v := ?qv79) (oi := ?qo79) ?qh79 (by kernel_rfl) (by kernel_rfl) (by kernel_rfl) (by decide) ?qq79 (Or.inl ⟨?qw79, ?qy79⟩) (by assumption) ?qr79
      case qh79 => (simp only [List.getElem?_toArray, List.getElem?_cons_succ, List.getElem?_cons_zero]; exact rfl)
      case qq79 => exact fun _ _ _ h => h
      case qw79 => rfl
      case qy79 => (intro wx _; go_simp; try with_reducible rfl)
      try simp only [Act.put, List.setIfInBounds_toArray, List.set_cons_zero, List.set_cons_succ]
      refine late_rest 18 (by kernel_rfl) (by decide) (o := ?qo80) ?qh80 (fun K hK => ?qr80)
      case qh80 => (simp only [List.getElem?_toArray, List.getElem?_cons_succ, List.getElem?_cons_zero]; exact rfl)
      go_simp
      refine hK.out _ _ ?_
      clear hK K
      try simp only [Act.put, List.setIfInBounds_toArray, List.set_cons_zero, List.set_cons_succ]
      refine late_rest 19 (by kernel_rfl) (by decide) (o := ?qo81) ?qh81 (fun K hK => ?qr81)
      case qh81 => (simp only [List.getElem?_toArray, List.getElem?_cons_succ, List.getElem?_cons_zero]; exact rfl)
      go_simp
      refine hK.out _ _ ?_
      clear hK K
      try simp only [Act.put, List.setIfInBounds_toArray, List.set_cons_zero, List.set_cons_succ]
      refine late_rest 20 (by kernel_rfl) (by decide) (o := ?qo82) ?qh82 (fun K hK => ?qr82)
      case qh82 => (simp only [List.getElem?_toArray, List.getElem?_cons_succ, List.getElem?_cons_zero]; exact rfl)
      go_simp
      refine hK.out _ _ ?_
      clear hK K
      try simp only [Act.put, List.setIfInBounds_toArray, List.set_cons_zero, List.set_cons_succ]
      refine late_rest 21 (by kernel_rfl) (by decide) (o := ?qo83) ?qh83 (fun K hK => ?qr83)
      case qh83 => (simp only [List.getElem?_toArray, List.getElem?_cons_succ, List.getElem?_cons_zero]; exact rfl)
      go_simp
      refine hK.out _ _ ?_
      clear hK K
      try simp only [Act.put, List.setIfInBounds_toArray, List.set_cons_zero, List.set_cons_succ]
      refine late_done (by kernel_rfl) ?_ _
      have P7 : PI X f nb (n + 1) (.slice (some ⟨gE, 0, none⟩) nb capE) (.slice (some ⟨gB, 0, none⟩) nb capB) (.slice (some ⟨g1, 0, none⟩) (n + 1) cap1) (.slice (some ⟨g2, 0, none⟩) (n + 1) cap2) es bs _ _ ((wV.setCell ⟨gB, ((nb - 1) * 2), none⟩ (.slice (some ⟨g1, 0, none⟩) (n + 1) cap1)).setCell ⟨gB, ((nb - 1) * 2 + 1), none⟩ (.slice (some ⟨g2, 0, none⟩) (n + 1) cap2)) := PI_put (n := 0) RV.out.blk RV.out.oE RV.out.oB (by omega) hm (by omega) HP.out.len oV1.out how2 ne1.out
      have hb8 : Below X w ((wV.setCell ⟨gB, ((nb - 1) * 2), none⟩ (.slice (some ⟨g1, 0, none⟩) (n + 1) cap1)).setCell ⟨gB, ((nb - 1) * 2 + 1), none⟩ (.slice (some ⟨g2, 0, none⟩) (n + 1) cap2)) := (hb7.setCell (show X ≤ gB by have := (br_lt HP.out.oB gB rfl).1; omega) _).setCell (show X ≤ gB by have := (br_lt HP.out.oB gB rfl).1; omega) _
      generalize ((wV.setCell ⟨gB, ((nb - 1) * 2), none⟩ (.slice (some ⟨g1, 0, none⟩) (n + 1) cap1)).setCell ⟨gB, ((nb - 1) * 2 + 1), none⟩ (.slice (some ⟨g2, 0, none⟩) (n + 1) cap2)) = W7 at P7 hb8 ⊢
      have x0 := two_cell0 P7.blk
      have q0 : ∃ u, W7.cell? ⟨gE, (nb - 1), none⟩ = some u := ⟨_, (P7.oE.cellAt (nb - 1) (by omega)).trans (List.getElem?_eq_getElem (by have := P7.oE.1; omega))⟩
      obtain ⟨u0, q0⟩ := q0
      have q1 : W7.frozen? ⟨gE, (nb - 1), none⟩ = false := P7.oE.frozenAt _
      have q2 := (P7.oE.lt gE rfl).1
      have HF : Hid _ := P7
      clear P7 c1 c2 c3 c4 hCV2 v0 v1
      go_wp2
      go_end0
      exact ⟨rfl, ⟨_, _, _, _, _, _, _, _, HF.out.stored⟩, hb8.setCell (by simpa using Nat.le_of_succ_le q2) _⟩
    case qs75 =>
      go_simp
      refine hK.out _ _ (CY_of HR.out.alloc.alloc.drew hm rfl) ?_
      clear hK K
      try simp only [Act.put, List.setIfInBounds_toArray, List.set_cons_zero, List.set_cons_succ]
      refine late_one (i := 8) (o := ?qo84) (by kernel_rfl) ?qh84 (fun K hK => ?qr84)
      case qh84 => (simp only [List.getElem?_toArray, List.getElem?_cons_succ, List.getElem?_cons_zero]; exact rfl)
      refine step_append_lies _ (by rfl) (.tmp 87) (.tmp 89) 24 (by rfl) (X + 1) 2 i2 _ 1 8 Yba.underlying24 hi2 hz20 hz21 hz22 rfl (by omega) (.slice (some ⟨hE, 0, none⟩) n cE) n xE (by rfl) ((HP.out.o1.alloc _).alloc _).drew ⟨w.heap.size, 0, none⟩ 1 1 [.int .i64 en] (by rfl) (by rfl) (World.news_of_block (cs := #[.int .i64 en]) (t := 2) (fr := (0, 0)) (hp_drew (hp_alloc (heap_alloc_new w _)))) (by simp [Value.oneCell']) (by omega) (by unfold maxLen; omega) (by omega) (by (try simp); omega) (w.heap.size + 1 + 1) (by try simp) ?_
      intro g1 cap1 wE how1 hgr1 hat1 hlt1
      have RE : Hid _ := (HR.out.alloc.alloc.drew).grown hgr1 nX1.out nE1.out nB1.out
      have hEl : w.heap.size < wE.heap.size := Nat.lt_of_lt_of_le (by simp <;> omega) hgr1.size
      refine hK.out _ _ (CY_of RE.out hm rfl) ?_
      clear hK K
      try simp only [Act.put, List.setIfInBounds_toArray, List.set_cons_zero, List.set_cons_succ]
      refine late_one (i := 15) (o := ?qo85) (by kernel_rfl) ?qh85 (fun K hK => ?qr85)
      case qh85 => (simp only [List.getElem?_toArray, List.getElem?_cons_succ, List.getElem?_cons_zero]; exact rfl)
      have hV1 := ow_grown hgr1 nVE.out ((HP.out.o2.alloc _).alloc _).drew
      have hE1 := how1
      have hS1 := RE.out
      refine step_append_lies _ (by rfl) (.tmp 94) (.tmp 96) 34 (by rfl) (X + 1) 3 i3 _ 1 8 Yba.underlying34 hi3 hz30 hz31 hz32 rfl (by omega) (.slice (some ⟨hV, 0, none⟩) n cV) n xV (by rfl) hV1 ⟨w.heap.size + 1, 0, none⟩ 1 1 [.int .i64 v] (by rfl) (by rfl) (World.news_of_block (cs := #[.int .i64 v]) (t := 3) (fr := (0, 0)) (hp_grown hgr1 (fun e0 => by have := (HP.out.o1.lt _ e0).2; omega) (hp_drew (hp_new (by simp))))) (by simp [Value.oneCell']) (by omega) (by unfold maxLen; omega) (by omega) (by (try simp); omega) (wE.heap.size) (by try simp) ?_
      intro g2 cap2 wV how2 hgr2 hat2 hlt2
      have RV : Hid _ := hS1.grown hgr2 nX2.out nE2.out nB2.out
      have oV1 : Hid _ := ow_grown hgr2 (own_ne hE1 hV1 (by decide)) hE1
      have hCV := CY_of RV.out hm rfl
      refine hK.out _ _ (CY_of RV.out hm rfl) ?_
      clear hK K
      try simp only [Act.put, List.setIfInBounds_toArray, List.set_cons_zero, List.set_cons_succ]
      have hb6 := ((((((Below.refl X w)).alloc (Nat.le_of_lt hXl) (.cells #[.int .i64 en] 2)).alloc (by simp; omega) (.cells #[.int .i64 v] 3)).drew).grown hgr1 (by show X ≤ (World.alloc (World.alloc w _) _).heap.size; simp; omega) (fun k hk => by have := (HP.out.o1.lt k hk).1; omega))
      have hb7 : Below X w wV := hb6.grown hgr2 (by (try simp); omega) (fun k hk => by have := (HP.out.o2.lt k hk).1; omega)
      have ne1 : Hid _ := ne_after (cp := cap1) (k := (n + 1)) (vE := (.slice (some ⟨gE, 0, none⟩) nb capE)) hat1 HP.out.ne (fun k hk => by have := hvl.out k hk; omega)
      have v0 := two_cell0 RV.out.blk
      have v1 := two_cell1 RV.out.blk
      obtain ⟨c1, c2, c3, c4⟩ := hCV
      have hCV2 : CY gB _ _ _ _ wV := ⟨c1, c2, c3, c4⟩
      refine late_pure (i := 16) (v := ?qv86) (oi := ?qo86) ?qh86 (by kernel_rfl) (by kernel_rfl) (by kernel_rfl) (by decide) ?qq86 (Or.inl ⟨?qw86, ?qy86⟩) (by assumption) ?qr86
      case qh86 => (simp only [List.getElem?_toArray, List.getElem?_cons_succ, List.getElem?_cons_zero]; exact rfl)
      case qq86 => exact fun _ _ _ h => h
      case qw86 => rfl
      case qy86 => (intro wx _; go_simp; try with_reducible rfl)
      try simp only [Act.put, List.setIfInBounds_toArray, List.set_cons_zero, List.set_cons_succ]
      refine late_pure (i := 17) (v := ?qv87) (oi := ?qo87) ?qh87 (by kernel_rfl) (by kernel_rfl) (by kernel_rfl) (by decide) ?qq87 (Or.inl ⟨?qw87, ?qy87⟩) (by assumption) ?qr87
      case qh87 => (simp only [List.getElem?_toArray, List.getElem?_cons_succ, List.getElem?_cons_zero]; exact rfl)
      case qq87 => exact fun _ _ _ h => h
      case qw87 => rfl
      case qy87 => (intro wx _; go_simp; try with_reducible rfl)
      try simp only [Act.put, List.setIfInBounds_toArray, List.set_cons_zero, List.set_cons_succ]
      refine late_rest 18 (by kernel_rfl) (by decide) (o := ?qo88) ?qh88 (fun K hK => ?qr88)
      case qh88 => (simp only [List.getElem?_toArray, List.getElem?_cons_succ, List.getElem?_cons_zero]; exact rfl)
      go_simp
      refine hK.out _ _ ?_
      clear hK K
      try simp only [Act.put, List.setIfInBounds_toArray, List.set_cons_zero, List.set_cons_succ]
      refine late_rest 19 (by kernel_rfl) (by decide) (o := ?qo89) ?qh89 (fun K hK => ?qr89)
      case qh89 => (simp only [List.getElem?_toArray, List.getElem?_cons_succ, List.getElem?_cons_zero]; exact rfl)
      go_simp
      refine hK.out _ _ ?_
      clear hK K
      try simp only [Act.put, List.setIfInBounds_toArray, List.set_cons_zero, List.set_cons_succ]
      refine late_rest 20 (by kernel_rfl) (by decide) (o := ?qo90) ?qh90 (fun K hK => ?qr90)
      case qh90 => (simp only [List.getElem?_toArray, List.getElem?_cons_succ, List.getElem?_cons_zero]; exact rfl)
      go_simp
      refine hK.out _ _ ?_
      clear hK K
      try simp only [Act.put, List.setIfInBounds_toArray, List.set_cons_zero, List.set_cons_succ]
      refine late_rest 21 (by kernel_rfl) (by decide) (o := ?qo91) ?qh91 (fun K hK => ?qr91)
      case qh91 => (simp only [List.getElem?_toArray, List.getElem?_cons_succ, List.getElem?_cons_zero]; exact rfl)
      go_simp
      refine hK.out _ _ ?_
      clear hK K
      try simp only [Act.put, List.setIfInBounds_toArray, List.set_cons_zero, List.set_cons_succ]
      refine late_done (by kernel_rfl) ?_ _
      have P7 : PI X f nb (n + 1) (.slice (some ⟨gE, 0, none⟩) nb capE) (.slice (some ⟨gB, 0, none⟩) nb capB) (.slice (some ⟨g1, 0, none⟩) (n + 1) cap1) (.slice (some ⟨g2, 0, none⟩) (n + 1) cap2) es bs _ _ ((wV.setCell ⟨gB, ((nb - 1) * 2), none⟩ (.slice (some ⟨g1, 0, none⟩) (n + 1) cap1)).setCell ⟨gB, ((nb - 1) * 2 + 1), none⟩ (.slice (some ⟨g2, 0, none⟩) (n + 1) cap2)) := PI_put (n := 0) RV.out.blk RV.out.oE RV.out.oB (by omega) hm (by omega) HP.out.len oV1.out how2 ne1.out
      have hb8 : Below X w ((wV.setCell ⟨gB, ((nb - 1) * 2), none⟩ (.slice (some ⟨g1, 0, none⟩) (n + 1) cap1)).setCell ⟨gB, ((nb - 1) * 2 + 1), none⟩ (.slice (some ⟨g2, 0, none⟩) (n + 1) cap2)) := (hb7.setCell (show X ≤ gB by have := (br_lt HP.out.oB gB rfl).1; omega) _).setCell (show X ≤ gB by have := (br_lt HP.out.oB gB rfl).1; omega) _
      generalize ((wV.setCell ⟨gB, ((nb - 1) * 2), none⟩ (.slice (some ⟨g1, 0, none⟩) (n + 1) cap1)).setCell ⟨gB, ((nb - 1) * 2 + 1), none⟩ (.slice (some ⟨g2, 0, none⟩) (n + 1) cap2)) = W7 at P7 hb8 ⊢
      have x0 := two_cell0 P7.blk
      have q0 : ∃ u, W7.cell? ⟨gE, (nb - 1), none⟩ = some u := ⟨_, (P7.oE.cellAt (nb - 1) (by omega)).trans (List.getElem?_eq_getElem (by have := P7.oE.1; omega))⟩
      obtain ⟨u0, q0⟩ := q0
      have q1 : W7.frozen? ⟨gE, (nb - 1), none⟩ = false := P7.oE.frozenAt _
      have q2 := (P7.oE.lt gE rfl).1
      have HF : Hid _ := P7
      clear P7 c1 c2 c3 c4 hCV2 v0 v1
      go_wp2
      go_end0
      exact ⟨rfl, ⟨_, _, _, _, _, _, _, _, HF.out.stored⟩, hb8.setCell (by simpa using Nat.le_of_succ_le q2) _⟩
  case qs74 =>
    go_simp
    refine hK.out _ _ (CY_of HR.out.alloc.drew hm rfl) ?_
    clear hK K
    try simp only [Act.put, List.setIfInBounds_toArray, List.set_cons_zero, List.set_cons_succ]
    refine late_one (i := 7) (o := ?qo92) (by kernel_rfl) ?qh92 (fun K hK => ?qr92)
    case qh92 => (simp only [List.getElem?_toArray, List.getElem?_cons_succ, List.getElem?_cons_zero]; exact rfl)
    go_simp
    refine hK.out _ _ (CY_of HR.out.alloc.alloc.drew hm rfl) ?_
    clear hK K
    try simp only [Act.put, List.setIfInBounds_toArray, List.set_cons_zero, List.set_cons_succ]
    refine late_one (i := 8) (o := ?qo93) (by kernel_rfl) ?qh93 (fun K hK => ?qr93)
    case qh93 => (simp only [List.getElem?_toArray, List.getElem?_cons_succ, List.getElem?_cons_zero]; exact rfl)
    refine step_append_lies _ (by rfl) (.tmp 87) (.tmp 89) 24 (by rfl) (X + 1) 2 i2 _ 1 8 Yba.underlying24 hi2 hz20 hz21 hz22 rfl (by omega) (.slice (some ⟨hE, 0, none⟩) n cE) n xE (by rfl) ((HP.out.o1.alloc _).alloc _).drew ⟨w.heap.size + 1, 0, none⟩ 1 1 [.int .i64 en] (by rfl) (by rfl) (World.news_of_block (cs := #[.int .i64 en]) (t := 2) (fr := (0, 0)) (hp_drew (hp_new (by simp)))) (by simp [Value.oneCell']) (by omega) (by unfold maxLen; omega) (by omega) (by (try simp); omega) (w.heap.size + 1 + 1) (by try simp) ?_
    intro g1 cap1 wE how1 hgr1 hat1 hlt1
    have RE : Hid _ := (HR.out.alloc.alloc.drew).grown hgr1 nX1.out nE1.out nB1.out
    have hEl : w.heap.size < wE.heap.size := Nat.lt_of_lt_of_le (by simp <;> omega) hgr1.size
    refine hK.out _ _ (CY_of RE.out hm rfl) ?_
    clear hK K
    try simp only [Act.put, List.setIfInBounds_toArray, List.set_cons_zero, List.set_cons_succ]
    refine late_one (i := 15) (o := ?qo94) (by kernel_rfl) ?qh94 (fun K hK => ?qr94)
    case qh94 => (simp only [List.getElem?_toArray, List.getElem?_cons_succ, List.getElem?_cons_zero]; exact rfl)
    have hV1 := ow_grown hgr1 nVE.out ((HP.out.o2.alloc _).alloc _).drew
    have hE1 := how1
    have hS1 := RE.out
    refine step_append_lies _ (by rfl) (.tmp 94) (.tmp 96) 34 (by rfl) (X + 1) 3 i3 _ 1 8 Yba.underlying34 hi3 hz30 hz31 hz32 rfl (by omega) (.slice (some ⟨hV, 0, none⟩) n cV) n xV (by rfl) hV1 ⟨w.heap.size, 0, none⟩ 1 1 [.int .i64 v] (by rfl) (by rfl) (World.news_of_block (cs := #[.int .i64 v]) (t := 3) (fr := (0, 0)) (hp_grown hgr1 (fun e0 => by have := (HP.out.o1.lt _ e0).2; omega) (hp_drew (hp_alloc (heap_alloc_new w _))))) (by simp [Value.oneCell']) (by omega) (by unfold maxLen; omega) (by omega) (by (try simp); omega) (wE.heap.size) (by try simp) ?_
    intro g2 cap2 wV how2 hgr2 hat2 hlt2
    have RV : Hid _ := hS1.grown hgr2 nX2.out nE2.out nB2.out
    have oV1 : Hid _ := ow_grown hgr2 (own_ne hE1 hV1 (by decide)) hE1
    have hCV := CY_of RV.out hm rfl
    refine hK.out _ _ (CY_of RV.out hm rfl) ?_
    clear hK K
    try simp only [Act.put, List.setIfInBounds_toArray, List.set_cons_zero, List.set_cons_succ]
    have hb6 := ((((((Below.refl X w)).alloc (Nat.le_of_lt hXl) (.cells #[.int .i64 v] 3)).alloc (by simp; omega) (.cells #[.int .i64 en] 2)).drew).grown hgr1 (by show X ≤ (World.alloc (World.alloc w _) _).heap.size; simp; omega) (fun k hk => by have := (HP.out.o1.lt k hk).1; omega))
    have hb7 : Below X w wV := hb6.grown hgr2 (by (try simp); omega) (fun k hk => by have := (HP.out.o2.lt k hk).1; omega)
    have ne1 : Hid _ := ne_after (cp := cap1) (k := (n + 1)) (vE := (.slice (some ⟨gE, 0, none⟩) nb capE)) hat1 HP.out.ne (fun k hk => by have := hvl.out k hk; omega)
    have v0 := two_cell0 RV.out.blk
    have v1 := two_cell1 RV.out.blk
    obtain ⟨c1, c2, c3, c4⟩ := hCV
    have hCV2 : CY gB _ _ _ _ wV := ⟨c1, c2, c3, c4⟩
    refine late_pure (i := 16) (v := ?qv95) (oi := ?qo95) ?qh95 (by kernel_rfl) (by kernel_rfl) (by kernel_rfl) (by decide) ?qq95 (Or.inl ⟨?qw95, ?qy95⟩) (by assumption) ?qr95
    case qh95 => (simp only [List.getElem?_toArray, List.getElem?_cons_succ, List.getElem?_cons_zero]; exact rfl)
    case qq95 => exact fun _ _ _ h => h
    case qw95 => rfl
    case qy95 => (intro wx _; go_simp; try with_reducible rfl)
    try simp only [Act.put, List.setIfInBounds_toArray, List.set_cons_zero, List.set_cons_succ]
    refine late_pure (i := 17) (v := ?qv96) (oi := ?qo96) ?qh96 (by kernel_rfl) (by kernel_rfl) (by kernel_rfl) (by decide) ?qq96 (Or.inl ⟨?qw96, ?qy96⟩) (by assumption) ?qr96
    case qh96 => (simp only [List.getElem?_toArray, List.getElem?_cons_succ, List.getElem?_cons_zero]; exact rfl)
    case qq96 => exact fun _ _ _ h => h
    case qw96 => rfl
    case qy96 => (intro wx _; go_simp; try with_reducible rfl)
    try simp only [Act.put, List.setIfInBounds_toArray, List.set_cons_zero, List.set_cons_succ]
    refine late_rest 18 (by kernel_rfl) (by decide) (o := ?qo97) ?qh97 (fun K hK => ?qr97)
    case qh97 => (simp only [List.getElem?_toArray, List.getElem?_cons_succ, List.getElem?_cons_zero]; exact rfl)
    go_simp
    refine hK.out _ _ ?_
    clear hK K
    try simp only [Act.put, List.setIfInBounds_toArray, List.set_cons_zero, List.set_cons_succ]
    refine late_rest 19 (by kernel_rfl) (by decide) (o := ?qo98) ?qh98 (fun K hK => ?qr98)
    case qh98 => (simp only [List.getElem?_toArray, List.getElem?_cons_succ, List.getElem?_cons_zero]; exact rfl)
    go_simp
    refine hK.out _ _ ?_
    clear hK K
    try simp only [Act.put, List.setIfInBounds_toArray, List.set_cons_zero, List.set_cons_succ]
    refine late_rest 20 (by kernel_rfl) (by decide) (o := ?qo99) ?qh99 (fun K hK => ?qr99)
    case qh99 => (simp only [List.getElem?_toArray, List.getElem?_cons_succ, List.getElem?_cons_zero]; exact rfl)
    go_simp
    refine hK.out _ _ ?_
    clear hK K
    try simp only [Act.put, List.setIfInBounds_toArray, List.set_cons_zero, List.set_cons_succ]
    refine late_rest 21 (by kernel_rfl) (by decide) (o := ?qo100) ?qh100 (fun K hK => ?qr100)
    case qh100 => (simp only [List.getElem?_toArray, List.getElem?_cons_succ, List.getElem?_cons_zero]; exact rfl)
    go_simp
    refine hK.out _ _ ?_
    clear hK K
    try simp only [Act.put, List.setIfInBounds_toArray, List.set_cons_zero, List.set_cons_succ]
    refine late_done (by kernel_rfl) ?_ _
    have P7 : PI X f nb (n + 1) (.slice (some ⟨gE, 0, none⟩) nb capE) (.slice (some ⟨gB, 0, none⟩) nb capB) (.slice (some ⟨g1, 0, none⟩) (n + 1) cap1) (.slice (some ⟨g2, 0, none⟩) (n + 1) cap2) es bs _ _ ((wV.setCell ⟨gB, ((nb - 1) * 2), none⟩ (.slice (some ⟨g1, 0, none⟩) (n + 1) cap1)).setCell ⟨gB, ((nb - 1) * 2 + 1), none⟩ (.slice (some ⟨g2, 0, none⟩) (n + 1) cap2)) := PI_put (n := 0) RV.out.blk RV.out.oE RV.out.oB (by omega) hm (by omega) HP.out.len oV1.out how2 ne1.out
    have hb8 : Below X w ((wV.setCell ⟨gB, ((nb - 1) * 2), none⟩ (.slice (some ⟨g1, 0, none⟩) (n + 1) cap1)).setCell ⟨gB, ((nb - 1) * 2 + 1), none⟩ (.slice (some ⟨g2, 0, none⟩) (n + 1) cap2)) := (hb7.setCell (show X ≤ gB by have := (br_lt HP.out.oB gB rfl).1; omega) _).setCell (show X ≤ gB by have := (br_lt HP.out.oB gB rfl).1; omega) _
    generalize ((wV.setCell ⟨gB, ((nb - 1) * 2), none⟩ (.slice (some ⟨g1, 0, none⟩) (n + 1) cap1)).setCell ⟨gB, ((nb - 1) * 2 + 1), none⟩ (.slice (some ⟨g2, 0, none⟩) (n + 1) cap2)) = W7 at P7 hb8 ⊢
    have x0 := two_cell0 P7.blk
    have q0 : ∃ u, W7.cell? ⟨gE, (nb - 1), none⟩ = some u := ⟨_, (P7.oE.cellAt (nb - 1) (by omega)).trans (List.getElem?_eq_getElem (by have := P7.oE.1; omega))⟩
    obtain ⟨u0, q0⟩ := q0
    have q1 : W7.frozen? ⟨gE, (nb - 1), none⟩ = false := P7.oE.frozenAt _
    have q2 := (P7.oE.lt gE rfl).1
    have HF : Hid _ := P7
    clear P7 c1 c2 c3 c4 hCV2 v0 v1
    go_wp2
    go_end0
    exact ⟨rfl, ⟨_, _, _, _, _, _, _, _, HF.out.stored⟩, hb8.setCell (by simpa using Nat.le_of_succ_le q2) _⟩
end Go.Proofs.Ybulkclmq
