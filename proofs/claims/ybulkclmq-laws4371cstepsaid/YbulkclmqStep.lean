import Derived.Test.YbulkclmqRows
import Derived.Test.YbulkclmqParts
import Derived.Test.YbulkclmqNext
import Derived.WalkKit
import Derived.WalkSmall
import Derived.WalkLawsBesides
import Derived.Deep.RegionHeld3
import Derived.Deep.AppendLies
import Derived.Deep.RegionLaw
namespace Go.Proofs.Ybulkclmq
open Go.RowKit
set_option linter.unusedVariables false

theorem Yba.info2 : (Yba.prog.info? 2).map (fun i => (i.zero, i.size, i.bytes)) = some (some (.int .i64 0), 1, 8) := by kernel_rfl
theorem Yba.info3 : (Yba.prog.info? 3).map (fun i => (i.zero, i.size, i.bytes)) = some (some (.int .i64 0), 1, 8) := by kernel_rfl
theorem Yba.info36 : (Yba.prog.info? 36).map (fun i => (i.zero, i.size, i.bytes)) = some (some (.agg #[.slice none 0 0, .slice none 0 0]), 2, 48) := by kernel_rfl

theorem step_edge (a0 : Option Addr) (len0 cap0 : Nat) (a1 a2 : Int) (w : World) (hl : len0 ≤ 9223372036854775807) (h : len0 = 0 ∨ 1024 < len0) :
    Calls Yba.prog 4 #[.slice a0 len0 cap0, .int .u16 a1, .int .u8 a2] w fun e w' => e = .returned (.bool true) ∧ Below w.heap.size w w' := by
  rcases h with h | h
  · subst h
    go_enter Yba.func4, Yba.ntmps4
    go_wp2
    go_ret
    exact ⟨rfl, Below.refl _ _⟩
  · have h2 : (1024 : Int) < (len0 : Int) := by omega
    go_enter Yba.func4, Yba.ntmps4
    go_wp2
    go_ret
    exact ⟨rfl, Below.refl _ _⟩

/-- What the outer loop has built in k rounds: block B holds the two slices; the blocks' own slices have the lengths that the sizes say. -/
def Built (B : Nat) (zs : List Int) (k : Nat) (wr : World) : Prop :=
  ∃ vE vB es bs, I2 (B + 1) B 27 2 1 36 2 k k vE vB es bs wr ∧ ∀ t, t < k → ∃ a c, bs[t * 2]? = some (.slice a (zs.getD t 0 % 6 + 1).toNat c)

theorem built_next {zs : List Int} {bs : List Value} {k j c0 : Nat} {a0 : Option Addr} {v : Value} (hbs : ∀ t, t < k → ∃ a c, bs[t * 2]? = some (.slice a (zs.getD t 0 % 6 + 1).toNat c)) (hlen : bs.length = k * 2)
    (hv : (j : Int) = zs.getD k 0 % 6 + 1) : ∀ t, t < k + 1 → ∃ a c, (bs ++ [.slice a0 j c0, v])[t * 2]? = some (.slice a (zs.getD t 0 % 6 + 1).toNat c) := by
  intro t ht
  by_cases h : t < k
  · obtain ⟨a, c, e⟩ := hbs t h
    exact ⟨a, c, by rw [List.getElem?_append_left (by omega)]; exact e⟩
  · obtain rfl : t = k := by omega
    refine ⟨a0, c0, ?_⟩
    rw [List.getElem?_append_right (by omega), hlen, Nat.sub_self, ← hv]
    simp

set_option maxHeartbeats 1000000 in
theorem step_main (b off len cap : Nat) (zs : List Int) (a1 a2 : Int) (w : World) (hlen : 1 ≤ len) (hl : len ≤ 1024) (hz : zs.length = cap) (hlc : len ≤ cap)
    (hcell : ∀ i, i < cap → w.cell? ⟨b, off + i, none⟩ = some (.int .u8 (zs.getD i 0))) (hwf : ∀ i, 0 ≤ zs.getD i 0 ∧ zs.getD i 0 ≤ 255)
    (ha1 : 0 ≤ a1 ∧ a1 ≤ 65535) (ha2 : 0 ≤ a2 ∧ a2 ≤ 255) :
    Calls Yba.prog 4 #[.slice (some ⟨b, off, none⟩) len cap, .int .u16 a1, .int .u8 a2] w fun e w' => e = .returned (.bool true) ∧ Below w.heap.size w w' := by
  have hbw : b < w.heap.size := World.block_lt_of_cell? w _ (hcell 0 (by omega))
  have hl0 : ((len : Int) == 0) = false := by simp; omega
  have hl1 : ¬ (1024 : Int) < (len : Int) := by omega
  obtain ⟨i2, hi2, hz20, hz21, hz22⟩ := info_parts Yba.info2
  obtain ⟨i3, hi3, hz30, hz31, hz32⟩ := info_parts Yba.info3
  obtain ⟨i36, hi36, hz60, hz61, hz62⟩ := info_parts Yba.info36
  go_enter Yba.func4, Yba.ntmps4
  go_wp2
  go_loopw [8, 31] (fun e i wr => ∃ k : Nat, k ≤ len ∧ i = .int .i64 k ∧ (∃ en : Int, e = .int .i64 en ∧ 0 ≤ en ∧ en ≤ 6 * k) ∧ Built w.heap.size zs k wr ∧ Below w.heap.size w wr)
    (fun _ i _ => len - (intOf i).toNat)
  case atStart =>
    refine ⟨0, Nat.zero_le _, rfl, ⟨0, rfl, by omega, by omega⟩, ⟨.slice none 0 0, .slice none 0 0, [], [], ⟨heap_alloc_new _ _, World.ownsRow_nil _ _ _ _, World.ownsRow_nil _ _ _ _, by omega, by simp⟩, fun t ht => absurd ht (by omega)⟩, (Below.refl _ _).alloc (Nat.le_refl _) _⟩
  case round =>
    obtain ⟨k, hk, rfl, ⟨en, rfl, hen0, hen1⟩, hBuilt, hbel⟩ := hrel
    by_cases hlt : k < len
    · have hc : wr.cell? ⟨b, off + k, none⟩ = some (.int .u8 (zs.getD k 0)) := (hbel.cell (by exact hbw)).trans (hcell k (by omega))
      obtain ⟨s, hs⟩ : ∃ s, s = zs.getD k 0 := ⟨_, rfl⟩
      have hsb := hwf k
      rw [← hs] at hc hsb
      have HS : Hid (s = zs.getD k 0) := hs
      clear hs hcell hwf
      have hltI : (k : Int) < (len : Int) := by omega
      go_wp2
      obtain ⟨wo, rfl⟩ : ∃ wo : World, wo = wr := ⟨_, rfl⟩
      go_loopw [8, 13] (fun e i wr => ∃ j : Nat, (j : Int) ≤ s % 6 + 1 ∧ i = .int .i64 j ∧ e = .int .i64 (en + j) ∧ (∃ vE vV xs ys, I2 (wo.heap.size + 1) wo.heap.size 36 2 1 3 1 j j vE vV xs ys wr) ∧ Below wo.heap.size wo wr)
        (fun _ i _ => (s % 6 + 1).toNat - (intOf i).toNat)
      case atStart =>
        exact ⟨0, by omega, rfl, by simp, ⟨.slice none 0 0, .slice none 0 0, [], [], ⟨heap_alloc_new _ _, World.ownsRow_nil _ _ _ _, World.ownsRow_nil _ _ _ _, by omega, by simp⟩⟩, (Below.refl _ _).alloc (Nat.le_refl _) _⟩
      case round =>
        obtain ⟨j, hj, rfl, rfl, ⟨vE, vV, xs, ys, hI⟩, hbi⟩ := hrel
        by_cases hjm : (j : Int) < s % 6 + 1
        · have hc0 := two_cell0 hI.blk
          have hc1 := two_cell1 hI.blk
          have hfr0 : wr.frozen? ⟨wo.heap.size, 0, none⟩ = false := two_free hI.blk
          have hfr1 : wr.frozen? ⟨wo.heap.size, 1, none⟩ = false := two_free hI.blk
          have hlo := two_lt hI.blk
          have HI : Hid (I2 (wo.heap.size + 1) wo.heap.size 36 2 1 3 1 j j vE vV xs ys wr) := hI
          clear hI hBuilt
          go_wp2_with (first
            | (at_builtin; refine wpList_append_lies _ rfl (.tmp 48) (.tmp 50) 24 rfl (wo.heap.size + 1) 2 i2 (.int .i64 0) 1 8 Yba.underlying24 hi2 hz20 hz21 hz22 rfl (by decide) vE j xs rfl (HI.out.o1.alloc _) ⟨wr.heap.size, 0, none⟩ 1 1 [.int .i64 (en + j + 1)] rfl rfl (cell_one_new _ _ _) (by simp [Value.oneCell']) (by omega) (by unfold maxLen; omega) (by omega) (by simp; omega) (wr.heap.size + 1) (by simp) ?_; intro g1 cap1 w1 hown1 hgrow1 hat1 hlt1; have hq1 : Hid _ := ((HI.out.alloc _).grow1 (by decide) hgrow1).1; have qc0 := two_cell0 hq1.out; have qc1 := two_cell1 hq1.out; have qf0 : w1.frozen? ⟨wo.heap.size, 0, none⟩ = false := two_free hq1.out; have qf1 : w1.frozen? ⟨wo.heap.size, 1, none⟩ = false := two_free hq1.out; have hs1 : wo.heap.size < w1.heap.size := two_lt hq1.out; have HI1 : Hid _ := (HI.out.alloc _).put1 (by decide) hgrow1 hown1)
            | (at_builtin; refine wpList_append_lies _ rfl (.tmp 54) (.tmp 56) 34 rfl (wo.heap.size + 1) 3 i3 (.int .i64 0) 1 8 Yba.underlying34 hi3 hz30 hz31 hz32 rfl (by decide) vV j ys rfl (HI1.out.o2.alloc _) ⟨w1.heap.size, 0, none⟩ 1 1 [.int .i64 j] rfl rfl ?_ (by simp [Value.oneCell']) (by omega) (by unfold maxLen; omega) (by omega) (by simp; omega) (w1.heap.size + 1) (by simp) ?_; (exact cell_one_at _ _ _ _ (size_setCell _ _ _)); intro g2 cap2 w2 hown2 hgrow2 hat2 hlt2; have hq2 : Hid _ := ((HI1.out.alloc _).grow2 (by decide) hgrow2).1; have rc0 := two_cell0 hq2.out; have rc1 := two_cell1 hq2.out; have rf0 : w2.frozen? ⟨wo.heap.size, 0, none⟩ = false := two_free hq2.out; have rf1 : w2.frozen? ⟨wo.heap.size, 1, none⟩ = false := two_free hq2.out; have hs2 : wo.heap.size < w2.heap.size := two_lt hq2.out; have HI2 : Hid _ := (HI1.out.alloc _).put2 (by decide) hgrow2 hown2))
          go_roundw
          case rel =>
            have hb1 := (HI.out.alloc _).bel1 (Nat.le_refl _) (hbi.alloc (Nat.le_of_lt hlo) _) hgrow1 0 (.slice (some ⟨g1, 0, none⟩) (j + 1) cap1)
            have hb2 := (HI1.out.alloc _).bel2 (Nat.le_refl _) (hb1.alloc (by rw [size_setCell]; exact Nat.le_of_lt hs1) _) hgrow2 1 (.slice (some ⟨g2, 0, none⟩) (j + 1) cap2)
            exact ⟨j + 1, by omega, by go_num, by go_num, ⟨_, _, _, _, HI2.out⟩, hb2⟩
          case measure => simp [intOf]; omega
        · have hje : Hid ((j : Int) = s % 6 + 1) := by have : (j : Int) = s % 6 + 1 := by omega
                                                       exact this
          obtain ⟨xE, xB, es, bs, hIo, hbs⟩ := hBuilt
          have hIx := hIo.below hbi
          have Hbs : Hid (∀ t, t < k → ∃ a c, bs[t * 2]? = some (.slice a (zs.getD t 0 % 6 + 1).toNat c)) := hbs
          obtain ⟨gE, cE, rfl, _, hgE⟩ := hI.o1.form (by omega)
          obtain ⟨gV, cV, rfl, _, hgV⟩ := hI.o2.form (by omega)
          have hk0 := two_cell0 hI.blk
          have hk1 := two_cell1 hI.blk
          have hx1 := two_cell1 hIx.blk
          have hx0 := two_cell0 hIx.blk
          have hxl := two_lt hIx.blk
          have hxo := two_lt hIo.blk
          have hfx1 : wr.frozen? ⟨w.heap.size, 1, none⟩ = false := two_free hIx.blk
          have hwo := two_lt hI.blk
          have hdis : Hid (xB.ownBlock ≠ some wo.heap.size) := by
            intro e0
            have := (hIo.o2.lt _ e0).2
            omega
          have hdX : Hid (xB.ownBlock ≠ some w.heap.size) := by
            intro e0
            have := (hIx.o2.lt _ e0).1
            omega
          have HI : Hid _ := hIx
          clear hI hIo hIx hbs
          go_wp2
          go_region_law
            ((refine step_append_lies _ (by rfl) _ _ _ (by rfl) (w.heap.size + 1) 36 i36 _ 2 48 Yba.underlying25 hi36 hz60 hz61 hz62 rfl (by omega) xB k bs (by rfl) ((HI.out.o2.alloc _).drew) ⟨wr.heap.size, 0, none⟩ 1 1 [.slice (some ⟨gE, 0, none⟩) j cE, .slice (some ⟨gV, 0, none⟩) j cV] (by rfl) (by rfl) (World.news_of_block (cs := #[.slice (some ⟨gE, 0, none⟩) j cE, .slice (some ⟨gV, 0, none⟩) j cV]) (t := 36) (fr := (0, 0)) (heap_alloc_new wr _)) (by simp [Value.oneCell']) (by omega) (by unfold maxLen; omega) (by omega) (by simp; omega) (wr.heap.size + 1) (by simp) ?_; intro g1 cap1 w1 hown1 hgrow1 hat1 hlt1; have hq1 : Hid _ := (((HI.out.alloc _).drew).grow2 (by decide) hgrow1).1; have qf1 : w1.frozen? ⟨w.heap.size, 1, none⟩ = false := two_free hq1.out; have qc1 := two_cell1 hq1.out; have hs1 : w.heap.size < w1.heap.size := two_lt hq1.out; have qk0 := far_cell hgrow1 hk0 hdis.out; have qk1 := far_cell hgrow1 hk1 hdis.out))
          all_goals
            have HI1 : Hid _ := ((HI.out.alloc _).drew).put2 (by decide) hgrow1 hown1
            have qc0 := two_cell0 hq1.out
            have qf0 : w1.frozen? ⟨w.heap.size, 0, none⟩ = false := two_free hq1.out
            go_wp2_with (first
              | (at_builtin; refine wpList_append_lies _ rfl (.tmp 73) (.tmp 75) 24 rfl (w.heap.size + 1) 2 i2 (.int .i64 0) 1 8 Yba.underlying24 hi2 hz20 hz21 hz22 rfl (by decide) xE k es rfl (HI1.out.o1.alloc _) ⟨w1.heap.size, 0, none⟩ 1 1 [.int .i64 (en + j)] rfl rfl ?_ (by simp [Value.oneCell']) (by omega) (by unfold maxLen; omega) (by omega) (by simp; omega) (w1.heap.size + 1) (by simp) ?_; (exact cell_one_at _ _ _ _ (size_setCell _ _ _)); intro g2 cap2 w2 hown2 hgrow2 hat2 hlt2; have hq2 : Hid _ := ((HI1.out.alloc _).grow1 (by decide) hgrow2).1; have rc0 := two_cell0 hq2.out; have rf0 : w2.frozen? ⟨w.heap.size, 0, none⟩ = false := two_free hq2.out; have hs2 : w.heap.size < w2.heap.size := two_lt hq2.out; have HI2 : Hid _ := (HI1.out.alloc _).put1 (by decide) hgrow2 hown2))
            go_roundw
            case rel =>
              have hb0 : Below w.heap.size w wr := hbel.trans (hbi.mono (Nat.le_of_lt hxo))
              have hb1 := ((HI.out.alloc _).drew).bel2 (Nat.le_refl _) ((hb0.alloc (Nat.le_of_lt hxl) _).drew) hgrow1 1 (.slice (some ⟨g1, 0, none⟩) (k + 1) cap1)
              have hb2 := (HI1.out.alloc _).bel1 (Nat.le_refl _) (hb1.alloc (by rw [size_setCell]; exact Nat.le_of_lt hs1) _) hgrow2 0 (.slice (some ⟨g2, 0, none⟩) (k + 1) cap2)
              exact ⟨k + 1, by omega, by go_num, ⟨en + j, rfl, by omega, by omega⟩, ⟨_, _, _, _, HI2.out, built_next Hbs.out HI.out.o2.1 (by rw [← HS.out]; exact hje.out)⟩, hb2⟩
            case measure => simp [intOf]; omega
    · obtain rfl : k = len := by omega
      obtain ⟨xE, xB, es, bs, hI, hbs⟩ := hBuilt
      obtain ⟨g, cB, rfl, _, hg⟩ := hI.o2.form (by omega)
      obtain ⟨A, rfl⟩ := Int.eq_ofNat_of_zero_le ha1.1
      obtain ⟨R, rfl⟩ := Int.eq_ofNat_of_zero_le ha2.1
      have hAm : A % k < k := Nat.mod_lt _ (by omega)
      have hc : wr.cell? ⟨b, off + A % k, none⟩ = some (.int .u8 (zs.getD (A % k) 0)) := (hbel.cell (by exact hbw)).trans (hcell (A % k) (by omega))
      obtain ⟨s, hs⟩ : ∃ s, s = zs.getD (A % k) 0 := ⟨_, rfl⟩
      have hsb := hwf (A % k)
      obtain ⟨aa, cc, hcb⟩ := hbs (A % k) hAm
      have hcg : wr.cell? ⟨g, A % k * 2, none⟩ = some (.slice aa (s % 6 + 1).toNat cc) := by
        rw [hI.o2.cellAt _ (by omega), hcb, hs]
      rw [← hs] at hc hsb
      have hx1 := two_cell1 hI.blk
      have hxl := two_lt hI.blk
      clear hs hcell hwf hI hbs hcb
      have hRb : (0 : Int) ≤ (R : Int) % (s % 6 + 1) ∧ (R : Int) % (s % 6 + 1) < s % 6 + 1 := ⟨Int.emod_nonneg _ (by omega), Int.emod_lt_of_pos _ (by omega)⟩
      have hAb : (0 : Int) ≤ (A : Int) % (k : Int) ∧ (A : Int) % (k : Int) < k := ⟨Int.emod_nonneg _ (by omega), Int.emod_lt_of_pos _ (by omega)⟩
      by_cases ht : (R : Int) % (s % 6 + 1) + 1 < s % 6 + 1
      · go_wp2_with fail
        refine (nextI_in _ _ w.heap.size g k cB (A % k) ((R : Int) % (s % 6 + 1)).toNat (s % 6 + 1).toNat cc aa _ (by omega) (by omega) hxl hg hx1 hcg hAm (by omega) (by omega) (by omega) (by omega) (by omega)).mono ?_
        rintro e w1 ⟨rfl, hb1⟩
        have hz1 : wr.heap.size ≤ w1.heap.size := hb1.size
        go_wp2
        go_ret
        exact ⟨by simp, ((hbel.trans (hb1.mono (Nat.le_of_lt hxl))).alloc (by omega) _).alloc (by simp; omega) _⟩
      · have ht' : ¬ (R : Int) % (s % 6 + 1) + 1 < s % 6 + 1 := ht
        go_wp2_with fail
        refine (nextI_out _ _ w.heap.size g k cB (A % k) ((R : Int) % (s % 6 + 1)).toNat (s % 6 + 1).toNat cc aa _ (by omega) (by omega) hxl hg hx1 hcg hAm (by omega) (by omega) (by omega) (by omega) (by omega)).mono ?_
        rintro e w1 ⟨rfl, hb1⟩
        have hz1 : wr.heap.size ≤ w1.heap.size := hb1.size
        go_wp2
        go_ret
        exact ⟨by simp, ((hbel.trans (hb1.mono (Nat.le_of_lt hxl))).alloc (by omega) _).alloc (by simp; omega) _⟩
end Go.Proofs.Ybulkclmq
