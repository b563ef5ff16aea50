import Derived.Test.YbulkclouRows
import Derived.Test.YbulkclouAdvC
import Derived.Test.YbulkclouLate
import Derived.WalkKit
import Derived.WalkSmall
import Derived.WalkLawsBesides
import Derived.Deep.QuietTactic
import Derived.BigQuiet
import Derived.Deep.DeepMust
import Derived.Deep.RegionHeld3
namespace Go.Proofs.Ybulkclou
open Go.RowKit
set_option linter.unusedVariables false
set_option linter.unusedSimpArgs false

theorem Yba.info29 : (Yba.prog.info? 29).map (fun i => (i.zero, i.size, i.bytes)) = some (some (.pointer none), 1, 8) := by kernel_rfl
theorem Yba.info39 : (Yba.prog.info? 39).map (fun i => (i.zero, i.size, i.bytes)) = some (some (.agg #[.nilIface, .slice none 0 0, .int .i64 0, .slice none 0 0]), 4, 72) := by kernel_rfl
theorem Yba.info35 : (Yba.prog.info? 35).map (fun i => (i.zero, i.size, i.bytes)) = some (some (.agg #[.slice none 0 0, .int .i64 0, .slice none 0 0]), 3, 56) := by kernel_rfl

def heads0 (n : Nat) : Array Value := madeCells #[.nilIface, .slice none 0 0, .int .i64 0, .slice none 0 0] (n * 4)
theorem run_heads (n : Nat) (h : n ≤ 100000) (w : World) : (Instr.makeSlice 26 (.int .i64 (n : Int)) (.int .i64 (n : Int))).run Yba.prog w = .ok (.slice (some ⟨w.heap.size, 0, none⟩) n n) (w.alloc (.cells (heads0 n) 39)) := by
  obtain ⟨i39, hi39, hz390, hz391, hz392⟩ := info_parts Yba.info39
  have hr := run_make (P := Yba.prog) w 26 39 i39 _ Yba.underlying26 hi39 hz390 .i64 .i64 n n (by omega) (Int.le_refl _) (by rw [hz392]; omega) (by omega)
  simp only [Int.toNat_natCast, hz391] at hr
  exact hr
theorem row_heads (w : World) (n : Nat) : ∃ f, (w.alloc (.cells (heads0 n) 39)).rowIs w.heap.size 39 (n * 4) f :=
  ⟨fun q => (heads0 n).getD q undef, heads0 n, heap_alloc_new _ _, size_madeCells _ _, fun i hi => by
    have : i < (heads0 n).size := by unfold heads0; rw [size_madeCells]; exact hi
    simp [this]⟩

set_option maxRecDepth 100000 in
set_option maxHeartbeats 2000000 in
theorem adv_main (b off L cap i n cl ea : Nat) (zs : List Int) (S a2 a3 : Int) (st : Bool) (a0 : Option Addr) (w : World) (hl : L ≤ 1024) (hn : (L : Int) + 1 = n) (hin : i < n) (hie : S % (n : Int) = i) (hS : 0 ≤ S ∧ S ≤ 18446744073709551615)
    (ha2 : 0 ≤ a2 ∧ a2 ≤ 255) (ha3 : 0 ≤ a3 ∧ a3 ≤ 255) (hcl : a2 % 6 + 1 = cl) (hea : a3 % 8 = ea) (hcl6 : cl ≤ 6) (hea8 : ea ≤ 8)
    (ha0 : 0 < L → a0 = some ⟨b, off, none⟩ ∧ b < w.heap.size) (hcell : ∀ t, t < L → w.cell? ⟨b, off + t, none⟩ = some (.int .i64 (zs.getD t 0))) :
    Calls Yba.prog 3 #[.slice a0 L cap, .int .u64 S, .int .u8 a2, .int .u8 a3, .bool st] w fun e w' => e = .returned (.bool true) ∧ Below w.heap.size w w' := by
  have hl1 : ¬ (1024 : Int) < (L : Int) := by omega
  have hnn : ((n : Int) == 0) = false := by simp; omega
  have hmk1 := run_make_row' (P := Yba.prog) 24 29 (.pointer none) 8 Yba.underlying24 Yba.info29 rfl .i64 .i64 n (by omega) (by omega)
  have hmk2 := run_heads n (by omega)
  go_enter Yba.func3, Yba.ntmps3
  go_wp2
  go_loopw [17] (fun jv wr => ∃ j : Nat, j ≤ n ∧ jv = .int .i64 j ∧ (∃ c kb fH esv ents, BS w.heap.size n i L j st ea c kb 0 fH esv ents wr) ∧ Below w.heap.size w wr) (fun jv _ => n - (intOf jv).toNat)
  case atStart =>
    obtain ⟨f, hf⟩ := row_heads (w.alloc (.cells (madeCells #[.pointer none] n) 29)) n
    refine ⟨0, Nat.zero_le _, rfl, ⟨fun _ => 0, fun _ => 0, f, nilS, [], ⟨?_, ?_, hp_new (by simp), fun t ht => absurd ht (by omega), fun _ t _ ht => absurd ht (by omega), fun t ht => absurd ht (by omega), fun t ht => absurd ht (by omega), fun ht => absurd ht (by omega), fun q hq => absurd hq (by omega)⟩⟩, (((Below.refl _ _).alloc (Nat.le_refl _) _).alloc (by simp) _).alloc (by simp; omega) _⟩
    · exact (((World.rowIs_made w (.pointer none) n 29).alloc _).alloc _).congr (fun t ht => by simp)
    · have := hf.alloc (.cells #[.slice (some ⟨w.heap.size + 1, 0, none⟩) n n, .bool st] 28)
      simpa using this
  case round =>
    obtain ⟨j, hj, rfl, ⟨c, kb, fH, esv, ents, hB⟩, hbel⟩ := hrel
    by_cases hlt : j < n
    · have hltj : j < n := hlt
      have HB : Hid (BS w.heap.size n i L j st ea c kb 0 fH esv ents wr) := hB
      have hl3 : w.heap.size + 1 + 1 < wr.heap.size := hB.lt
      have cbl := hB.cb.lt
      have hbl := hB.hb.lt
      have c1 : wr.cell? ⟨w.heap.size, j, none⟩ = some (.pointer none) := (hB.cb.cell (i := j) hlt).trans (by simp)
      have c1f := hB.cb.frozen j
      have h1 := hB.hb.cell (i := j * 4) (by omega)
      have h2 := hB.hb.cell (i := j * 4 + 1) (by omega)
      have h3 := hB.hb.cell (i := j * 4 + 2) (by omega)
      have h4 := hB.hb.cell (i := j * 4 + 3) (by omega)
      have h1f := hB.hb.frozen (j * 4)
      have h2f := hB.hb.frozen (j * 4 + 1)
      have h3f := hB.hb.frozen (j * 4 + 2)
      have h4f := hB.hb.frozen (j * 4 + 3)
      have m0 : wr.cell? ⟨w.heap.size + 1 + 1, 0, none⟩ = some (.slice (some ⟨w.heap.size + 1, 0, none⟩) n n) := two_cell0 hB.mb
      have lv00 : w.heap.size < wr.heap.size := by omega
      have lv01 : w.heap.size < wr.heap.size + 1 := by omega
      have lv02 : w.heap.size < wr.heap.size + 1 + 1 := by omega
      have lv03 : w.heap.size < wr.heap.size + 1 + 1 + 1 := by omega
      have lv04 : w.heap.size < wr.heap.size + 1 + 1 + 1 + 1 := by omega
      have lv10 : w.heap.size + 1 < wr.heap.size := by omega
      have lv11 : w.heap.size + 1 < wr.heap.size + 1 := by omega
      have lv12 : w.heap.size + 1 < wr.heap.size + 1 + 1 := by omega
      have lv13 : w.heap.size + 1 < wr.heap.size + 1 + 1 + 1 := by omega
      have lv14 : w.heap.size + 1 < wr.heap.size + 1 + 1 + 1 + 1 := by omega
      have lv20 : w.heap.size + 1 + 1 < wr.heap.size := by omega
      have lv21 : w.heap.size + 1 + 1 < wr.heap.size + 1 := by omega
      have lv22 : w.heap.size + 1 + 1 < wr.heap.size + 1 + 1 := by omega
      have lv23 : w.heap.size + 1 + 1 < wr.heap.size + 1 + 1 + 1 := by omega
      have lv24 : w.heap.size + 1 + 1 < wr.heap.size + 1 + 1 + 1 + 1 := by omega
      have HCL : Hid (∀ t, t < L → w.cell? ⟨b, off + t, none⟩ = some (.int .i64 (zs.getD t 0))) := hcell
      clear hB hcell
      by_cases hji : j = i
      · subst hji
        have hji : ((j : Int) == (j : Int)) = true := by simp
        obtain ⟨i35, hi35', hz350', hz351', hz352'⟩ := info_parts Yba.info35
        have hi35 : Hid _ := hi35'
        have hz350 : Hid _ := hz350'
        have hz351 : Hid _ := hz351'
        have hz352 : Hid _ := hz352'
        clear hi35' hz350' hz351' hz352'
        go_wp2
        obtain ⟨wo, rfl⟩ : ∃ wo : World, wo = wr := ⟨_, rfl⟩
        go_loopw [19] (fun tv wq => ∃ t : Nat, t ≤ L ∧ tv = .int .i64 t ∧ (∃ esv ents, wq.heap[wo.heap.size]? = some (.cells #[esv, .int .i64 ea, .int .i64 0] 32 (0, 0)) ∧ Ents (wo.heap.size + 1) t esv ents wq) ∧ Below wo.heap.size wo wq) (fun tv _ => L - (intOf tv).toNat)
        case atStart =>
          exact ⟨0, Nat.zero_le _, rfl, ⟨nilS, [], heap_alloc_new _ _, World.ownsRow_nil _ _ _ _, fun t ht => absurd ht (by omega)⟩, (Below.refl _ _).alloc (Nat.le_refl _) _⟩
        case round =>
          obtain ⟨t, ht, rfl, ⟨esv, ents, hc, hE⟩, hbq⟩ := hrel
          by_cases hlt : t < L
          · obtain ⟨rfl, hbw⟩ := ha0 (by omega)
            have HC : Hid _ := hc
            have HE : Hid (Ents (wo.heap.size + 1) t esv ents wr) := hE
            have hz : wr.cell? ⟨b, off + t, none⟩ = some (.int .i64 (zs.getD t 0)) := (hbq.cell (by show b < wo.heap.size; omega)).trans ((hbel.cell (by exact hbw)).trans (HCL.out t hlt))
            have hne : Hid (esv.ownBlock ≠ some wo.heap.size) := own_ne_blk hE.1 hc (by decide)
            have hneb : Hid (esv.ownBlock ≠ some b) := fun e0 => by have := (hE.1.lt b e0).1; omega
            have hcl := lt_of_block hc
            have hltI : (t : Int) < (L : Int) := by omega
            have hlt0 : (0 : Int) ≤ (t : Int) := by omega
            clear hc hE
            go_wp2
            refine wp_region_late 20 (CZ wo.heap.size b (off + t) esv (zs.getD t 0)) (by kernel_rfl) (CZ_of (hp_drew HC.out) (by simpa using hz)) (fun hC => ?_)
            refine late_pure (i := 0) (v := ?zqv1) (oi := ?zqo1) ?zqh1 (by kernel_rfl) (by kernel_rfl) (by kernel_rfl) (by decide) ?zqq1 (Or.inl ⟨?zqw1, ?zqy1⟩) (by assumption) ?zqr1
            case zqh1 => (simp only [List.getElem?_toArray, List.getElem?_cons_succ, List.getElem?_cons_zero]; exact rfl)
            case zqq1 => exact fun _ _ _ h => h
            case zqw1 => rfl
            case zqy1 => (intro wx _; go_simp; try with_reducible rfl)
            try simp only [Act.put, List.setIfInBounds_toArray, List.set_cons_zero, List.set_cons_succ]
            refine late_pure (i := 1) (v := ?zqv2) (oi := ?zqo2) ?zqh2 (by kernel_rfl) (by kernel_rfl) (by kernel_rfl) (by decide) ?zqq2 (Or.inl ⟨?zqw2, ?zqy2⟩) (by assumption) ?zqr2
            case zqh2 => (simp only [List.getElem?_toArray, List.getElem?_cons_succ, List.getElem?_cons_zero]; exact rfl)
            case zqq2 => exact fun _ _ _ h => h
            case zqw2 => rfl
            case zqy2 => (intro wx _; go_simp; try with_reducible rfl)
            try simp only [Act.put, List.setIfInBounds_toArray, List.set_cons_zero, List.set_cons_succ]
            refine late_pure (i := 2) (v := ?zqv3) (oi := ?zqo3) ?zqh3 (by kernel_rfl) (by kernel_rfl) (by kernel_rfl) (by decide) ?zqq3 (Or.inl ⟨?zqw3, ?zqy3⟩) (by assumption) ?zqr3
            case zqh3 => (simp only [List.getElem?_toArray, List.getElem?_cons_succ, List.getElem?_cons_zero]; exact rfl)
            case zqq3 => exact fun _ _ _ h => h
            case zqw3 => rfl
            case zqy3 => (intro wx _; go_simp; try with_reducible rfl)
            try simp only [Act.put, List.setIfInBounds_toArray, List.set_cons_zero, List.set_cons_succ]
            refine late_pure (i := 3) (v := ?zqv4) (oi := ?zqo4) ?zqh4 (by kernel_rfl) (by kernel_rfl) (by kernel_rfl) (by decide) ?zqq4 (Or.inl ⟨?zqw4, ?zqy4⟩) (by assumption) ?zqr4
            case zqh4 => (simp only [List.getElem?_toArray, List.getElem?_cons_succ, List.getElem?_cons_zero]; exact rfl)
            case zqq4 => exact fun _ _ _ h => h
            case zqw4 => rfl
            case zqy4 => (intro wx _; go_simp; try with_reducible rfl)
            try simp only [Act.put, List.setIfInBounds_toArray, List.set_cons_zero, List.set_cons_succ]
            refine late_load (i := 4) (v := ?zqv5) (oi := ?zqo5) ?zqh5 (by kernel_rfl) (by kernel_rfl) (by kernel_rfl) (by kernel_rfl) (by kernel_rfl) (by decide) ?zqq5 (Or.inl ⟨?zqw5, ?zqy5⟩) (by assumption) ?zqr5
            case zqh5 => (simp only [List.getElem?_toArray, List.getElem?_cons_succ, List.getElem?_cons_zero]; exact rfl)
            case zqq5 => exact fun _ _ _ h => h
            case zqw5 => rfl
            case zqy5 => (intro wx hSw; (try dsimp only at hSw); obtain ⟨s1, s2, s3, s4⟩ := hSw; go_simp; try with_reducible rfl)
            try simp only [Act.put, List.setIfInBounds_toArray, List.set_cons_zero, List.set_cons_succ]
            refine late_pure (i := 5) (v := ?zqv6) (oi := ?zqo6) ?zqh6 (by kernel_rfl) (by kernel_rfl) (by kernel_rfl) (by decide) ?zqq6 (Or.inl ⟨?zqw6, ?zqy6⟩) (by assumption) ?zqr6
            case zqh6 => (simp only [List.getElem?_toArray, List.getElem?_cons_succ, List.getElem?_cons_zero]; exact rfl)
            case zqq6 => exact fun _ _ _ h => h
            case zqw6 => rfl
            case zqy6 => (intro wx _; go_simp; try with_reducible rfl)
            try simp only [Act.put, List.setIfInBounds_toArray, List.set_cons_zero, List.set_cons_succ]
            refine late_pure (i := 6) (v := ?zqv7) (oi := ?zqo7) ?zqh7 (by kernel_rfl) (by kernel_rfl) (by kernel_rfl) (by decide) ?zqq7 (Or.inl ⟨?zqw7, ?zqy7⟩) (by assumption) ?zqr7
            case zqh7 => (simp only [List.getElem?_toArray, List.getElem?_cons_succ, List.getElem?_cons_zero]; exact rfl)
            case zqq7 => exact fun _ _ _ h => h
            case zqw7 => rfl
            case zqy7 => (intro wx _; go_simp; try with_reducible rfl)
            try simp only [Act.put, List.setIfInBounds_toArray, List.set_cons_zero, List.set_cons_succ]
            refine late_pure (i := 8) (v := ?zqv8) (oi := ?zqo8) ?zqh8 (by kernel_rfl) (by kernel_rfl) (by kernel_rfl) (by decide) ?zqq8 (Or.inl ⟨?zqw8, ?zqy8⟩) (by assumption) ?zqr8
            case zqh8 => (simp only [List.getElem?_toArray, List.getElem?_cons_succ, List.getElem?_cons_zero]; exact rfl)
            case zqq8 => exact fun _ _ _ h => h
            case zqw8 => rfl
            case zqy8 => (intro wx _; go_simp; try with_reducible rfl)
            try simp only [Act.put, List.setIfInBounds_toArray, List.set_cons_zero, List.set_cons_succ]
            refine late_pure (i := 9) (v := ?zqv9) (oi := ?zqo9) ?zqh9 (by kernel_rfl) (by kernel_rfl) (by kernel_rfl) (by decide) ?zqq9 (Or.inl ⟨?zqw9, ?zqy9⟩) (by assumption) ?zqr9
            case zqh9 => (simp only [List.getElem?_toArray, List.getElem?_cons_succ, List.getElem?_cons_zero]; exact rfl)
            case zqq9 => exact fun _ _ _ h => h
            case zqw9 => rfl
            case zqy9 => (intro wx _; go_simp; try with_reducible rfl)
            try simp only [Act.put, List.setIfInBounds_toArray, List.set_cons_zero, List.set_cons_succ]
            refine late_pure (i := 10) (v := ?zqv10) (oi := ?zqo10) ?zqh10 (by kernel_rfl) (by kernel_rfl) (by kernel_rfl) (by decide) ?zqq10 (Or.inl ⟨?zqw10, ?zqy10⟩) (by assumption) ?zqr10
            case zqh10 => (simp only [List.getElem?_toArray, List.getElem?_cons_succ, List.getElem?_cons_zero]; exact rfl)
            case zqq10 => exact fun _ _ _ h => h
            case zqw10 => rfl
            case zqy10 => (intro wx _; go_simp; try with_reducible rfl)
            try simp only [Act.put, List.setIfInBounds_toArray, List.set_cons_zero, List.set_cons_succ]
            refine late_load (i := 11) (v := ?zqv11) (oi := ?zqo11) ?zqh11 (by kernel_rfl) (by kernel_rfl) (by kernel_rfl) (by kernel_rfl) (by kernel_rfl) (by decide) ?zqq11 (Or.inl ⟨?zqw11, ?zqy11⟩) (by assumption) ?zqr11
            case zqh11 => (simp only [List.getElem?_toArray, List.getElem?_cons_succ, List.getElem?_cons_zero]; exact rfl)
            case zqq11 => exact fun _ _ _ h => h
            case zqw11 => rfl
            case zqy11 => (intro wx hSw; (try dsimp only at hSw); obtain ⟨s1, s2, s3, s4⟩ := hSw; go_simp; try with_reducible rfl)
            try simp only [Act.put, List.setIfInBounds_toArray, List.set_cons_zero, List.set_cons_succ]
            refine late_pure (i := 12) (v := ?zqv12) (oi := ?zqo12) ?zqh12 (by kernel_rfl) (by kernel_rfl) (by kernel_rfl) (by decide) ?zqq12 (Or.inl ⟨?zqw12, ?zqy12⟩) (by assumption) ?zqr12
            case zqh12 => (simp only [List.getElem?_toArray, List.getElem?_cons_succ, List.getElem?_cons_zero]; exact rfl)
            case zqq12 => exact fun _ _ _ h => h
            case zqw12 => rfl
            case zqy12 => (intro wx _; go_simp; try with_reducible rfl)
            try simp only [Act.put, List.setIfInBounds_toArray, List.set_cons_zero, List.set_cons_succ]
            refine late_pure (i := 13) (v := ?zqv13) (oi := ?zqo13) ?zqh13 (by kernel_rfl) (by kernel_rfl) (by kernel_rfl) (by decide) ?zqq13 (Or.inl ⟨?zqw13, ?zqy13⟩) (by assumption) ?zqr13
            case zqh13 => (simp only [List.getElem?_toArray, List.getElem?_cons_succ, List.getElem?_cons_zero]; exact rfl)
            case zqq13 => exact fun _ _ _ h => h
            case zqw13 => rfl
            case zqy13 => (intro wx _; go_simp; try with_reducible rfl)
            try simp only [Act.put, List.setIfInBounds_toArray, List.set_cons_zero, List.set_cons_succ]
            refine late_two (i := 7) (j := 14) (o := ?zqo14) (o' := ?zqp14) (by kernel_rfl) ?zqh14 ?zqi14 (fun K hK => ?zqr14) (fun K hK => ?zqs14)
            case zqh14 => (simp only [List.getElem?_toArray, List.getElem?_cons_succ, List.getElem?_cons_zero]; exact rfl)
            case zqi14 => (simp only [List.getElem?_toArray, List.getElem?_cons_succ, List.getElem?_cons_zero]; exact rfl)
            case zqr14 =>
              go_simp
              refine hK.out _ _ (CZ_of (hp_drew (hp_alloc HC.out)) (cell_al hz)) ?_
              clear hK K
              try simp only [Act.put, List.setIfInBounds_toArray, List.set_cons_zero, List.set_cons_succ]
              refine late_one (i := 14) (o := ?zqo15) (by kernel_rfl) ?zqh15 (fun K hK => ?zqr15)
              case zqh15 => (simp only [List.getElem?_toArray, List.getElem?_cons_succ, List.getElem?_cons_zero]; exact rfl)
              go_simp
              refine hK.out _ _ (CZ_of (hp_drew (hp_alloc (hp_alloc HC.out))) (cell_al (cell_al hz))) ?_
              clear hK K
              try simp only [Act.put, List.setIfInBounds_toArray, List.set_cons_zero, List.set_cons_succ]
              refine late_pure (i := 15) (v := ?zqv16) (oi := ?zqo16) ?zqh16 (by kernel_rfl) (by kernel_rfl) (by kernel_rfl) (by decide) ?zqq16 (Or.inl ⟨?zqw16, ?zqy16⟩) (CZ_of (hp_drew (hp_alloc (hp_alloc HC.out))) (cell_al (cell_al hz))) ?zqr16
              case zqh16 => (simp only [List.getElem?_toArray, List.getElem?_cons_succ, List.getElem?_cons_zero]; exact rfl)
              case zqq16 => exact fun _ _ _ h => h
              case zqw16 => rfl
              case zqy16 => (intro wx _; go_simp; try with_reducible rfl)
              try simp only [Act.put, List.setIfInBounds_toArray, List.set_cons_zero, List.set_cons_succ]
              refine late_one (i := 16) (o := ?zqo17) (by kernel_rfl) ?zqh17 (fun K hK => ?zqr17)
              case zqh17 => (simp only [List.getElem?_toArray, List.getElem?_cons_succ, List.getElem?_cons_zero]; exact rfl)
              go_simp
              refine hK.out _ _ (CZ_of (hp_drew (hp_alloc (hp_alloc (hp_alloc HC.out)))) (cell_al (cell_al (cell_al hz)))) ?_
              clear hK K
              try simp only [Act.put, List.setIfInBounds_toArray, List.set_cons_zero, List.set_cons_succ]
              refine late_one (i := 17) (o := ?zqo18) (by kernel_rfl) ?zqh18 (fun K hK => ?zqr18)
              case zqh18 => (simp only [List.getElem?_toArray, List.getElem?_cons_succ, List.getElem?_cons_zero]; exact rfl)
              refine step_append_lies _ (by rfl) (.tmp 75) (.tmp 87) 30 (by rfl) (wo.heap.size + 1) 35 i35 _ 3 56 Yba.underlying30 hi35.out hz350.out hz351.out hz352.out rfl (by omega) esv t ents (by rfl) (((HE.out.1.alloc _).alloc _).alloc _).drew ⟨wr.heap.size + 1 + 1, 0, none⟩ 1 1 [.slice (some ⟨wr.heap.size, 0, none⟩) 1 1, .int .i64 (zs.getD t 0), .slice (some ⟨wr.heap.size + 1, 0, none⟩) 2 2] (by rfl) (by rfl) (World.news_of_block (cs := #[.slice (some ⟨wr.heap.size, 0, none⟩) 1 1, .int .i64 (zs.getD t 0), .slice (some ⟨wr.heap.size + 1, 0, none⟩) 2 2]) (t := 35) (fr := (0, 0)) (hp_drew (hp_new (by simp)))) (by simp [Value.oneCell']) (by omega) (by unfold maxLen; omega) (by omega) (by simp; omega) (wr.heap.size + 1 + 1 + 1) (by simp) ?_
              intro g1 cap1 w1 how1 hgr1 hat1 hlt1
              have hC4 : w1.heap[wo.heap.size]? = some (.cells #[esv, .int .i64 ea, .int .i64 0] 32 (0, 0)) := hp_grown hgr1 hne.out (hp_drew (hp_alloc (hp_alloc (hp_alloc HC.out))))
              have hz4 := cell_gr hgr1 hneb.out (cell_al (cell_al (cell_al hz)))
              refine hK.out _ _ (CZ_of hC4 hz4) ?_
              clear hK K
              try simp only [Act.put, List.setIfInBounds_toArray, List.set_cons_zero, List.set_cons_succ]
              have hC5 := CZ_of hC4 hz4
              have hC6 := hC5
              obtain ⟨s1, s2, s3, s4⟩ := hC6
              refine late_pure (i := 18) (v := ?zqv19) (oi := ?zqo19) ?zqh19 (by kernel_rfl) (by kernel_rfl) (by kernel_rfl) (by decide) ?zqq19 (Or.inl ⟨?zqw19, ?zqy19⟩) (by assumption) ?zqr19
              case zqh19 => (simp only [List.getElem?_toArray, List.getElem?_cons_succ, List.getElem?_cons_zero]; exact rfl)
              case zqq19 => exact fun _ _ _ h => h
              case zqw19 => rfl
              case zqy19 => (intro wx _; go_simp; try with_reducible rfl)
              try simp only [Act.put, List.setIfInBounds_toArray, List.set_cons_zero, List.set_cons_succ]
              refine late_pure (i := 19) (v := ?zqv20) (oi := ?zqo20) ?zqh20 (by kernel_rfl) (by kernel_rfl) (by kernel_rfl) (by decide) ?zqq20 (Or.inl ⟨?zqw20, ?zqy20⟩) (by assumption) ?zqr20
              case zqh20 => (simp only [List.getElem?_toArray, List.getElem?_cons_succ, List.getElem?_cons_zero]; exact rfl)
              case zqq20 => exact fun _ _ _ h => h
              case zqw20 => rfl
              case zqy20 => (intro wx _; go_simp; try with_reducible rfl)
              try simp only [Act.put, List.setIfInBounds_toArray, List.set_cons_zero, List.set_cons_succ]
              refine late_rest 20 (by kernel_rfl) (by decide) (o := ?zqo21) ?zqh21 (fun K hK => ?zqr21)
              case zqh21 => (simp only [List.getElem?_toArray, List.getElem?_cons_succ, List.getElem?_cons_zero]; exact rfl)
              go_simp
              refine hK.out _ _ ?_
              clear hK K
              try simp only [Act.put, List.setIfInBounds_toArray, List.set_cons_zero, List.set_cons_succ]
              refine late_done (by kernel_rfl) ?_ _
              clear s1 s2 s3 hC5 hz4
              go_wp2
              go_roundw
              case rel =>
                exact inner_next hbq hlt HE.out HC.out hgr1 hC4 how1 (hp_drew (hp_alloc (hp_alloc (heap_alloc_new wr _)))) (hp_drew (hp_alloc (hp_new (by simp))))
              case measure => simp [intOf]; omega
            case zqs14 =>
              go_simp
              refine hK.out _ _ (CZ_of (hp_drew (hp_alloc HC.out)) (cell_al hz)) ?_
              clear hK K
              try simp only [Act.put, List.setIfInBounds_toArray, List.set_cons_zero, List.set_cons_succ]
              refine late_one (i := 7) (o := ?zqo22) (by kernel_rfl) ?zqh22 (fun K hK => ?zqr22)
              case zqh22 => (simp only [List.getElem?_toArray, List.getElem?_cons_succ, List.getElem?_cons_zero]; exact rfl)
              go_simp
              refine hK.out _ _ (CZ_of (hp_drew (hp_alloc (hp_alloc HC.out))) (cell_al (cell_al hz))) ?_
              clear hK K
              try simp only [Act.put, List.setIfInBounds_toArray, List.set_cons_zero, List.set_cons_succ]
              refine late_pure (i := 15) (v := ?zqv23) (oi := ?zqo23) ?zqh23 (by kernel_rfl) (by kernel_rfl) (by kernel_rfl) (by decide) ?zqq23 (Or.inl ⟨?zqw23, ?zqy23⟩) (CZ_of (hp_drew (hp_alloc (hp_alloc HC.out))) (cell_al (cell_al hz))) ?zqr23
              case zqh23 => (simp only [List.getElem?_toArray, List.getElem?_cons_succ, List.getElem?_cons_zero]; exact rfl)
              case zqq23 => exact fun _ _ _ h => h
              case zqw23 => rfl
              case zqy23 => (intro wx _; go_simp; try with_reducible rfl)
              try simp only [Act.put, List.setIfInBounds_toArray, List.set_cons_zero, List.set_cons_succ]
              refine late_one (i := 16) (o := ?zqo24) (by kernel_rfl) ?zqh24 (fun K hK => ?zqr24)
              case zqh24 => (simp only [List.getElem?_toArray, List.getElem?_cons_succ, List.getElem?_cons_zero]; exact rfl)
              go_simp
              refine hK.out _ _ (CZ_of (hp_drew (hp_alloc (hp_alloc (hp_alloc HC.out)))) (cell_al (cell_al (cell_al hz)))) ?_
              clear hK K
              try simp only [Act.put, List.setIfInBounds_toArray, List.set_cons_zero, List.set_cons_succ]
              refine late_one (i := 17) (o := ?zqo25) (by kernel_rfl) ?zqh25 (fun K hK => ?zqr25)
              case zqh25 => (simp only [List.getElem?_toArray, List.getElem?_cons_succ, List.getElem?_cons_zero]; exact rfl)
              refine step_append_lies _ (by rfl) (.tmp 75) (.tmp 87) 30 (by rfl) (wo.heap.size + 1) 35 i35 _ 3 56 Yba.underlying30 hi35.out hz350.out hz351.out hz352.out rfl (by omega) esv t ents (by rfl) (((HE.out.1.alloc _).alloc _).alloc _).drew ⟨wr.heap.size + 1 + 1, 0, none⟩ 1 1 [.slice (some ⟨wr.heap.size + 1, 0, none⟩) 1 1, .int .i64 (zs.getD t 0), .slice (some ⟨wr.heap.size, 0, none⟩) 2 2] (by rfl) (by rfl) (World.news_of_block (cs := #[.slice (some ⟨wr.heap.size + 1, 0, none⟩) 1 1, .int .i64 (zs.getD t 0), .slice (some ⟨wr.heap.size, 0, none⟩) 2 2]) (t := 35) (fr := (0, 0)) (hp_drew (hp_new (by simp)))) (by simp [Value.oneCell']) (by omega) (by unfold maxLen; omega) (by omega) (by simp; omega) (wr.heap.size + 1 + 1 + 1) (by simp) ?_
              intro g1 cap1 w1 how1 hgr1 hat1 hlt1
              have hC4 : w1.heap[wo.heap.size]? = some (.cells #[esv, .int .i64 ea, .int .i64 0] 32 (0, 0)) := hp_grown hgr1 hne.out (hp_drew (hp_alloc (hp_alloc (hp_alloc HC.out))))
              have hz4 := cell_gr hgr1 hneb.out (cell_al (cell_al (cell_al hz)))
              refine hK.out _ _ (CZ_of hC4 hz4) ?_
              clear hK K
              try simp only [Act.put, List.setIfInBounds_toArray, List.set_cons_zero, List.set_cons_succ]
              have hC5 := CZ_of hC4 hz4
              have hC6 := hC5
              obtain ⟨s1, s2, s3, s4⟩ := hC6
              refine late_pure (i := 18) (v := ?zqv26) (oi := ?zqo26) ?zqh26 (by kernel_rfl) (by kernel_rfl) (by kernel_rfl) (by decide) ?zqq26 (Or.inl ⟨?zqw26, ?zqy26⟩) (by assumption) ?zqr26
              case zqh26 => (simp only [List.getElem?_toArray, List.getElem?_cons_succ, List.getElem?_cons_zero]; exact rfl)
              case zqq26 => exact fun _ _ _ h => h
              case zqw26 => rfl
              case zqy26 => (intro wx _; go_simp; try with_reducible rfl)
              try simp only [Act.put, List.setIfInBounds_toArray, List.set_cons_zero, List.set_cons_succ]
              refine late_pure (i := 19) (v := ?zqv27) (oi := ?zqo27) ?zqh27 (by kernel_rfl) (by kernel_rfl) (by kernel_rfl) (by decide) ?zqq27 (Or.inl ⟨?zqw27, ?zqy27⟩) (by assumption) ?zqr27
              case zqh27 => (simp only [List.getElem?_toArray, List.getElem?_cons_succ, List.getElem?_cons_zero]; exact rfl)
              case zqq27 => exact fun _ _ _ h => h
              case zqw27 => rfl
              case zqy27 => (intro wx _; go_simp; try with_reducible rfl)
              try simp only [Act.put, List.setIfInBounds_toArray, List.set_cons_zero, List.set_cons_succ]
              refine late_rest 20 (by kernel_rfl) (by decide) (o := ?zqo28) ?zqh28 (fun K hK => ?zqr28)
              case zqh28 => (simp only [List.getElem?_toArray, List.getElem?_cons_succ, List.getElem?_cons_zero]; exact rfl)
              go_simp
              refine hK.out _ _ ?_
              clear hK K
              try simp only [Act.put, List.setIfInBounds_toArray, List.set_cons_zero, List.set_cons_succ]
              refine late_done (by kernel_rfl) ?_ _
              clear s1 s2 s3 hC5 hz4
              go_wp2
              go_roundw
              case rel =>
                exact inner_next hbq hlt HE.out HC.out hgr1 hC4 how1 (hp_drew (hp_alloc (hp_new (by simp)))) (hp_drew (hp_alloc (hp_alloc (heap_alloc_new wr _))))
              case measure => simp [intOf]; omega
          · obtain rfl : t = L := by omega
            have hBq := HB.out.below hbq
            have HBq : Hid (BS w.heap.size n j t j st ea c kb 0 fH _ _ wr) := hBq
            have hq3 : w.heap.size + 1 + 1 < wr.heap.size := hBq.lt
            have c1 : wr.cell? ⟨w.heap.size, j, none⟩ = some (.pointer none) := (hBq.cb.cell (i := j) hltj).trans (by simp)
            have c1f := hBq.cb.frozen j
            have h1 := hBq.hb.cell (i := j * 4) (by omega)
            have h2 := hBq.hb.cell (i := j * 4 + 1) (by omega)
            have h3 := hBq.hb.cell (i := j * 4 + 2) (by omega)
            have h4 := hBq.hb.cell (i := j * 4 + 3) (by omega)
            have h1f := hBq.hb.frozen (j * 4)
            have h2f := hBq.hb.frozen (j * 4 + 1)
            have h3f := hBq.hb.frozen (j * 4 + 2)
            have h4f := hBq.hb.frozen (j * 4 + 3)
            have m0 : wr.cell? ⟨w.heap.size + 1 + 1, 0, none⟩ = some (.slice (some ⟨w.heap.size + 1, 0, none⟩) n n) := two_cell0 hBq.mb
            have lw00 : w.heap.size < wr.heap.size := by omega
            have lw01 : w.heap.size < wr.heap.size + 1 := by omega
            have lw02 : w.heap.size < wr.heap.size + 1 + 1 := by omega
            have lw10 : w.heap.size + 1 < wr.heap.size := by omega
            have lw11 : w.heap.size + 1 < wr.heap.size + 1 := by omega
            have lw12 : w.heap.size + 1 < wr.heap.size + 1 + 1 := by omega
            have lw20 : w.heap.size + 1 + 1 < wr.heap.size := by omega
            have lw21 : w.heap.size + 1 + 1 < wr.heap.size + 1 := by omega
            have lw22 : w.heap.size + 1 + 1 < wr.heap.size + 1 + 1 := by omega
            have HC : Hid _ := hc
            have HE : Hid (Ents (wo.heap.size + 1) t esv ents wr) := hE
            clear hBq hc hE
            go_wp2
            go_roundw
            case rel =>
              have hsz := S5_size w.heap.size j wo.heap.size wr.heap.size wr
              have hWb : ∀ o1, Below wr.heap.size (S5 w.heap.size j wo.heap.size wr.heap.size wr) ((S5 w.heap.size j wo.heap.size wr.heap.size wr).alloc o1) := fun o1 => (Below.refl _ _).alloc (by omega) _
              have k32 := HBq.out.s5kp (j := j) wo.heap.size wr.heap.size 32 (by decide) (by decide)
              have k35 := HBq.out.s5kp (j := j) wo.heap.size wr.heap.size 35 (by decide) (by decide)
              have k5 := HBq.out.s5kp (j := j) wo.heap.size wr.heap.size 5 (by decide) (by decide)
              exact ⟨j + 1, by omega, by go_num, HBq.out.next (es' := esv) (ents' := ents) hltj wo.heap.size wr.heap.size (fun t ht e0 => by have := HB.out.cltAll t ht; omega) (by omega) (hWb _) (hp_alloc (k32 _ _ HC.out)) (hp_new (by simp [hsz])) (.inr ⟨rfl, rfl, own_base ((ow_kp HE.out.1 k35).alloc _) (by omega), (((show Ents _ _ _ _ _ from HE.out).kp k35 k5).kp kp_alloc kp_alloc).2⟩), (S5_below (hbel.trans (hbq.mono (by omega)))).trans ((hWb _).mono (by omega))⟩
            case measure => simp [intOf]; omega
      · have hjib : ((j : Int) == (i : Int)) = false := by simp; omega
        go_wp2
        go_roundw
        case rel =>
          have hsz := S5_size w.heap.size j wr.heap.size (wr.heap.size + 1 + 1 + 1) wr
          have hWb : ∀ o1 o2 o3 o4, Below wr.heap.size (S5 w.heap.size j wr.heap.size (wr.heap.size + 1 + 1 + 1) wr) (((((S5 w.heap.size j wr.heap.size (wr.heap.size + 1 + 1 + 1) wr).alloc o1).alloc o2).alloc o3).alloc o4) := fun o1 o2 o3 o4 =>
            ((((Below.refl _ _).alloc (by omega) _).alloc (by simp; omega) _).alloc (by simp; omega) _).alloc (by simp; omega) _
          exact ⟨j + 1, by omega, by go_num, HB.out.next (ents' := []) hlt wr.heap.size (wr.heap.size + 1 + 1 + 1) (fun t ht e0 => by have := HB.out.cltAll t ht; omega) (by omega) (hWb _ _ _ _) (hp_alloc (hp_alloc (hp_alloc (hp_new hsz.symm)))) (hp_new (by simp [hsz])) (.inl ⟨hji, rfl⟩), (S5_below hbel).trans ((hWb _ _ _ _).mono (by omega))⟩
        case measure => simp [intOf]; omega
    · obtain rfl : j = n := by omega
      have HB : Hid (BS w.heap.size j i L j st ea c kb 0 fH esv ents wr) := hB
      clear hB hcell hmk1 hmk2
      go_wp2
      obtain ⟨wo, rfl⟩ : ∃ wo : World, wo = wr := ⟨_, rfl⟩
      go_loopw [20] (fun tv wq => ∃ t : Nat, t ≤ cl ∧ tv = .int .i64 t ∧ (∃ fH, BS w.heap.size j i L j st ea c kb t fH esv ents wq) ∧ Below w.heap.size w wq) (fun tv _ => cl - (intOf tv).toNat)
      case atStart => exact ⟨0, Nat.zero_le _, rfl, ⟨fH, HB.out⟩, hbel⟩
      case round =>
        obtain ⟨t, ht, rfl, ⟨fH, hB⟩, hbt⟩ := hrel
        have HBt : Hid (BS w.heap.size j i L j st ea c kb t fH esv ents wr) := hB
        clear hB
        by_cases hlt : t < cl
        · by_cases hte : (t : Int) = (ea : Int)
          · have hteb : ((t : Int) == (ea : Int)) = true := by simpa using hte
            have HTE : Hid ((t : Int) = (ea : Int)) := hte
            clear hte
            go_wp2_with fail
            refine (adv_err w.heap.size j i L t st ea c kb fH esv ents _ hin (by omega) (by omega) HTE.out.symm HBt.out).mono ?_
            rintro e w1 ⟨x, fH1, rfl, hB1, g1, g2, g3, hbw⟩
            go_wp2
            have hcv : CV w.heap.size j i w1.heap.size nilS (.int .i64 0) nilS _ := hB1.cv hin g1 g2 g3 35
            have HCV : Hid _ := hcv
            have HCV2 : Hid (CV w.heap.size j i w1.heap.size nilS (.int .i64 0) nilS (w1.alloc (.cells #[nilS, .int .i64 0, nilS] 35))) := hcv
            clear hcv HCV
            refine wp_region_late 11 (CV w.heap.size j i w1.heap.size nilS (.int .i64 0) nilS) (by kernel_rfl) (HCV2.out.below (Below.refl _ _).drew) (fun hC => ?_)
            refine late_pure (i := 0) (v := ?qv1) (oi := ?qo1) ?qh1 (by kernel_rfl) (by kernel_rfl) (by kernel_rfl) (by decide) ?qq1 (Or.inl ⟨?qw1, ?qy1⟩) (by assumption) ?qr1
            case qh1 => (simp only [List.getElem?_toArray, List.getElem?_cons_succ, List.getElem?_cons_zero]; exact rfl)
            case qq1 => exact fun _ _ _ h => h
            case qw1 => rfl
            case qy1 => (intro wx _; go_simp; try with_reducible rfl)
            try simp only [Act.put, List.setIfInBounds_toArray, List.set_cons_zero, List.set_cons_succ]
            refine late_pure (i := 1) (v := ?qv2) (oi := ?qo2) ?qh2 (by kernel_rfl) (by kernel_rfl) (by kernel_rfl) (by decide) ?qq2 (Or.inl ⟨?qw2, ?qy2⟩) (by assumption) ?qr2
            case qh2 => (simp only [List.getElem?_toArray, List.getElem?_cons_succ, List.getElem?_cons_zero]; exact rfl)
            case qq2 => exact fun _ _ _ h => h
            case qw2 => rfl
            case qy2 => (intro wx _; go_simp; try with_reducible rfl)
            try simp only [Act.put, List.setIfInBounds_toArray, List.set_cons_zero, List.set_cons_succ]
            refine late_pure (i := 2) (v := ?qv3) (oi := ?qo3) ?qh3 (by kernel_rfl) (by kernel_rfl) (by kernel_rfl) (by decide) ?qq3 (Or.inl ⟨?qw3, ?qy3⟩) (by assumption) ?qr3
            case qh3 => (simp only [List.getElem?_toArray, List.getElem?_cons_succ, List.getElem?_cons_zero]; exact rfl)
            case qq3 => exact fun _ _ _ h => h
            case qw3 => rfl
            case qy3 => (intro wx _; go_simp; try with_reducible rfl)
            try simp only [Act.put, List.setIfInBounds_toArray, List.set_cons_zero, List.set_cons_succ]
            refine late_load (i := 3) (v := ?qv4) (oi := ?qo4) ?qh4 (by kernel_rfl) (by kernel_rfl) (by kernel_rfl) (by kernel_rfl) (by kernel_rfl) (by decide) ?qq4 (Or.inl ⟨?qw4, ?qy4⟩) (by assumption) ?qr4
            case qh4 => (simp only [List.getElem?_toArray, List.getElem?_cons_succ, List.getElem?_cons_zero]; exact rfl)
            case qq4 => exact fun _ _ _ h => h
            case qw4 => rfl
            case qy4 => (intro wx hSw; (try dsimp only at hSw); obtain ⟨s1, s2, s3, s4⟩ := hSw; go_simp; try with_reducible rfl)
            try simp only [Act.put, List.setIfInBounds_toArray, List.set_cons_zero, List.set_cons_succ]
            refine late_pure (i := 4) (v := ?qv5) (oi := ?qo5) ?qh5 (by kernel_rfl) (by kernel_rfl) (by kernel_rfl) (by decide) ?qq5 (Or.inl ⟨?qw5, ?qy5⟩) (by assumption) ?qr5
            case qh5 => (simp only [List.getElem?_toArray, List.getElem?_cons_succ, List.getElem?_cons_zero]; exact rfl)
            case qq5 => exact fun _ _ _ h => h
            case qw5 => rfl
            case qy5 => (intro wx _; go_simp; try with_reducible rfl)
            try simp only [Act.put, List.setIfInBounds_toArray, List.set_cons_zero, List.set_cons_succ]
            refine late_pure (i := 5) (v := ?qv6) (oi := ?qo6) ?qh6 (by kernel_rfl) (by kernel_rfl) (by kernel_rfl) (by decide) ?qq6 (Or.inl ⟨?qw6, ?qy6⟩) (by assumption) ?qr6
            case qh6 => (simp only [List.getElem?_toArray, List.getElem?_cons_succ, List.getElem?_cons_zero]; exact rfl)
            case qq6 => exact fun _ _ _ h => h
            case qw6 => rfl
            case qy6 => (intro wx _; go_simp; try with_reducible rfl)
            try simp only [Act.put, List.setIfInBounds_toArray, List.set_cons_zero, List.set_cons_succ]
            refine late_pure (i := 6) (v := ?qv7) (oi := ?qo7) ?qh7 (by kernel_rfl) (by kernel_rfl) (by kernel_rfl) (by decide) ?qq7 (Or.inl ⟨?qw7, ?qy7⟩) (by assumption) ?qr7
            case qh7 => (simp only [List.getElem?_toArray, List.getElem?_cons_succ, List.getElem?_cons_zero]; exact rfl)
            case qq7 => exact fun _ _ _ h => h
            case qw7 => rfl
            case qy7 => (intro wx _; go_simp; try with_reducible rfl)
            try simp only [Act.put, List.setIfInBounds_toArray, List.set_cons_zero, List.set_cons_succ]
            refine late_load (i := 7) (v := ?qv8) (oi := ?qo8) ?qh8 (by kernel_rfl) (by kernel_rfl) (by kernel_rfl) (by kernel_rfl) (by kernel_rfl) (by decide) ?qq8 (Or.inl ⟨?qw8, ?qy8⟩) (by assumption) ?qr8
            case qh8 => (simp only [List.getElem?_toArray, List.getElem?_cons_succ, List.getElem?_cons_zero]; exact rfl)
            case qq8 => exact fun _ _ _ h => h
            case qw8 => rfl
            case qy8 => (intro wx hSw; (try dsimp only at hSw); obtain ⟨s1, s2, s3, s4⟩ := hSw; go_simp; try with_reducible rfl)
            try simp only [Act.put, List.setIfInBounds_toArray, List.set_cons_zero, List.set_cons_succ]
            refine late_load (i := 8) (v := ?qv9) (oi := ?qo9) ?qh9 (by kernel_rfl) (by kernel_rfl) (by kernel_rfl) (by kernel_rfl) (by kernel_rfl) (by decide) ?qq9 (Or.inl ⟨?qw9, ?qy9⟩) (by assumption) ?qr9
            case qh9 => (simp only [List.getElem?_toArray, List.getElem?_cons_succ, List.getElem?_cons_zero]; exact rfl)
            case qq9 => exact fun _ _ _ h => h
            case qw9 => rfl
            case qy9 => (intro wx hSw; (try dsimp only at hSw); obtain ⟨s1, s2, s3, s4⟩ := hSw; go_simp; try with_reducible rfl)
            try simp only [Act.put, List.setIfInBounds_toArray, List.set_cons_zero, List.set_cons_succ]
            refine late_one (i := 9) (o := ?qo10) (by kernel_rfl) ?qh10 (fun K hK => ?qr10)
            case qh10 => (simp only [List.getElem?_toArray, List.getElem?_cons_succ, List.getElem?_cons_zero]; exact rfl)
            go_simp
            refine (zeq nilS nilS 0 ByteArray.empty ByteArray.empty _ ⟨_, _, _, rfl⟩ ⟨_, _, _, rfl⟩ ?r0 ?r2).mono ?_
            case r0 => exact fun w' _ => reads_nil w'
            case r2 => exact fun w' _ => reads_nil w'
            rintro e w2 ⟨rfl, hb2⟩
            dsimp only
            refine hK.out _ _ (HCV2.out.below ((Below.refl _ _).drew.trans hb2)) ?_
            clear hK K
            try simp only [Act.put, List.setIfInBounds_toArray, List.set_cons_zero, List.set_cons_succ]
            refine late_pure (i := 10) (v := ?qv11) (oi := ?qo11) ?qh11 (by kernel_rfl) (by kernel_rfl) (by kernel_rfl) (by decide) ?qq11 (Or.inl ⟨?qw11, ?qy11⟩) (HCV2.out.below ((Below.refl _ _).drew.trans hb2)) ?qr11
            case qh11 => (simp only [List.getElem?_toArray, List.getElem?_cons_succ, List.getElem?_cons_zero]; exact rfl)
            case qq11 => exact fun _ _ _ h => h
            case qw11 => rfl
            case qy11 => (intro wx _; go_simp; try with_reducible rfl)
            try simp only [Act.put, List.setIfInBounds_toArray, List.set_cons_zero, List.set_cons_succ]
            refine late_done (by kernel_rfl) ?_ _
            have hbx : Below w1.heap.size w1 w2 := (((Below.refl _ w1).alloc (Nat.le_refl _) _).drew).trans (hb2.mono (by show w1.heap.size ≤ (w1.alloc _).heap.size; simp))
            have hBx := hB1.below hbx
            have k0 : w2.cell? ⟨w.heap.size, i, none⟩ = some (.pointer (some ⟨c i, 0, none⟩)) := (hBx.cb.cell (i := i) hin).trans (by simp [hin])
            have k2 := three_cell2 (hBx.own hin).1
            have HBx : Hid (BS w.heap.size j i L j st ea c kb ((t : Int) + 1) fH1 esv ents w2) := hBx
            clear hBx hB1
            go_wp2
            go_roundw
            case rel => exact ⟨t + 1, by omega, by go_num, ⟨fH1, by have := HBx.out; simpa using this⟩, (hbt.trans hbw).trans (hbx.mono (by have := hbt.size; have := hbw.size; omega))⟩
            case measure => simp [intOf]; omega
          · have hteb : ((t : Int) == (ea : Int)) = false := by simpa using hte
            clear hte
            by_cases hL : t < L
            ·
              obtain ⟨g, cap0, x0, l, x2, hes, _, _, _, _, _, _, _, d0, d1, d2⟩ := HBt.out.entry hin hL
              go_wp2_with fail
              refine (adv_ok w.heap.size j i L t st ea c kb fH esv ents x0 x2 l _ hin (by omega) (by omega) hteb hL HBt.out d0 d1 d2).mono ?_
              rintro e w1 ⟨fH1, rfl, hB1, g1, g2, g3, hbw⟩
              obtain ⟨g', cap', y0, l', y2, hes', hgl, hgc, e0, e1, e2, r0, r2, dd0, dd1, dd2⟩ := hB1.entry hin hL
              obtain rfl : x0 = y0 := by rw [d0] at dd0; simpa using dd0
              obtain rfl : x2 = y2 := by rw [d2] at dd2; simpa using dd2
              obtain rfl : l = l' := by rw [d1] at dd1; simpa using dd1
              clear dd0 dd1 dd2 d0 d1 d2
              subst hes'
              obtain ⟨sx0, hs0⟩ := r0.reads
              obtain ⟨sx2, hs2⟩ := r2.reads
              obtain ⟨ax0, nx0, kx0, rfl⟩ := r0.form
              obtain ⟨ax2, nx2, kx2, rfl⟩ := r2.form
              have q0 : w1.cell? ⟨w.heap.size, i, none⟩ = some (.pointer (some ⟨c i, 0, none⟩)) := (hB1.cb.cell (i := i) hin).trans (by simp [hin])
              have q1 := three_cell0 (hB1.own hin).1
              have ql1 := hB1.cb.lt
              have ql2 := hB1.cltAll i hin
              have HS0 : Hid _ := hs0
              have HS2 : Hid _ := hs2
              have hltL : (t : Int) < (L : Int) := by omega
              clear hs0 hs2 hes
              have HB1 : Hid (BS w.heap.size j i L j st ea c kb ((t : Int) + 1) fH1 (.slice (some ⟨g', 0, none⟩) L cap') ents w1) := hB1
              clear hB1
              go_wp2
              have hB1 := HB1.out
              have hcv : CV w.heap.size j i w1.heap.size (.slice ax0 nx0 kx0) (.int .i64 l) (.slice ax2 nx2 kx2) _ := hB1.cv hin g1 g2 g3 35
              have HCV2 : Hid (CV w.heap.size j i w1.heap.size (.slice ax0 nx0 kx0) (.int .i64 l) (.slice ax2 nx2 kx2) (w1.alloc (.cells #[(.slice ax0 nx0 kx0), .int .i64 l, (.slice ax2 nx2 kx2)] 35))) := hcv
              clear hcv
              refine wp_region_late 11 (CV w.heap.size j i w1.heap.size (.slice ax0 nx0 kx0) (.int .i64 l) (.slice ax2 nx2 kx2)) (by kernel_rfl) (HCV2.out.below (Below.refl _ _).drew) (fun hC => ?_)
              refine late_pure (i := 0) (v := ?qv213) (oi := ?qo213) ?qh213 (by kernel_rfl) (by kernel_rfl) (by kernel_rfl) (by decide) ?qq213 (Or.inl ⟨?qw213, ?qy213⟩) (by assumption) ?qr213
              case qh213 => (simp only [List.getElem?_toArray, List.getElem?_cons_succ, List.getElem?_cons_zero]; exact rfl)
              case qq213 => exact fun _ _ _ h => h
              case qw213 => rfl
              case qy213 => (intro wx _; go_simp; try with_reducible rfl)
              try simp only [Act.put, List.setIfInBounds_toArray, List.set_cons_zero, List.set_cons_succ]
              refine late_pure (i := 1) (v := ?qv214) (oi := ?qo214) ?qh214 (by kernel_rfl) (by kernel_rfl) (by kernel_rfl) (by decide) ?qq214 (Or.inl ⟨?qw214, ?qy214⟩) (by assumption) ?qr214
              case qh214 => (simp only [List.getElem?_toArray, List.getElem?_cons_succ, List.getElem?_cons_zero]; exact rfl)
              case qq214 => exact fun _ _ _ h => h
              case qw214 => rfl
              case qy214 => (intro wx _; go_simp; try with_reducible rfl)
              try simp only [Act.put, List.setIfInBounds_toArray, List.set_cons_zero, List.set_cons_succ]
              refine late_pure (i := 2) (v := ?qv215) (oi := ?qo215) ?qh215 (by kernel_rfl) (by kernel_rfl) (by kernel_rfl) (by decide) ?qq215 (Or.inl ⟨?qw215, ?qy215⟩) (by assumption) ?qr215
              case qh215 => (simp only [List.getElem?_toArray, List.getElem?_cons_succ, List.getElem?_cons_zero]; exact rfl)
              case qq215 => exact fun _ _ _ h => h
              case qw215 => rfl
              case qy215 => (intro wx _; go_simp; try with_reducible rfl)
              try simp only [Act.put, List.setIfInBounds_toArray, List.set_cons_zero, List.set_cons_succ]
              refine late_load (i := 3) (v := ?qv216) (oi := ?qo216) ?qh216 (by kernel_rfl) (by kernel_rfl) (by kernel_rfl) (by kernel_rfl) (by kernel_rfl) (by decide) ?qq216 (Or.inl ⟨?qw216, ?qy216⟩) (by assumption) ?qr216
              case qh216 => (simp only [List.getElem?_toArray, List.getElem?_cons_succ, List.getElem?_cons_zero]; exact rfl)
              case qq216 => exact fun _ _ _ h => h
              case qw216 => rfl
              case qy216 => (intro wx hSw; (try dsimp only at hSw); obtain ⟨s1, s2, s3, s4⟩ := hSw; go_simp; try with_reducible rfl)
              try simp only [Act.put, List.setIfInBounds_toArray, List.set_cons_zero, List.set_cons_succ]
              refine late_pure (i := 4) (v := ?qv217) (oi := ?qo217) ?qh217 (by kernel_rfl) (by kernel_rfl) (by kernel_rfl) (by decide) ?qq217 (Or.inl ⟨?qw217, ?qy217⟩) (by assumption) ?qr217
              case qh217 => (simp only [List.getElem?_toArray, List.getElem?_cons_succ, List.getElem?_cons_zero]; exact rfl)
              case qq217 => exact fun _ _ _ h => h
              case qw217 => rfl
              case qy217 => (intro wx _; go_simp; try with_reducible rfl)
              try simp only [Act.put, List.setIfInBounds_toArray, List.set_cons_zero, List.set_cons_succ]
              refine late_pure (i := 5) (v := ?qv218) (oi := ?qo218) ?qh218 (by kernel_rfl) (by kernel_rfl) (by kernel_rfl) (by decide) ?qq218 (Or.inl ⟨?qw218, ?qy218⟩) (by assumption) ?qr218
              case qh218 => (simp only [List.getElem?_toArray, List.getElem?_cons_succ, List.getElem?_cons_zero]; exact rfl)
              case qq218 => exact fun _ _ _ h => h
              case qw218 => rfl
              case qy218 => (intro wx _; go_simp; try with_reducible rfl)
              try simp only [Act.put, List.setIfInBounds_toArray, List.set_cons_zero, List.set_cons_succ]
              refine late_pure (i := 6) (v := ?qv219) (oi := ?qo219) ?qh219 (by kernel_rfl) (by kernel_rfl) (by kernel_rfl) (by decide) ?qq219 (Or.inl ⟨?qw219, ?qy219⟩) (by assumption) ?qr219
              case qh219 => (simp only [List.getElem?_toArray, List.getElem?_cons_succ, List.getElem?_cons_zero]; exact rfl)
              case qq219 => exact fun _ _ _ h => h
              case qw219 => rfl
              case qy219 => (intro wx _; go_simp; try with_reducible rfl)
              try simp only [Act.put, List.setIfInBounds_toArray, List.set_cons_zero, List.set_cons_succ]
              refine late_load (i := 7) (v := ?qv220) (oi := ?qo220) ?qh220 (by kernel_rfl) (by kernel_rfl) (by kernel_rfl) (by kernel_rfl) (by kernel_rfl) (by decide) ?qq220 (Or.inl ⟨?qw220, ?qy220⟩) (by assumption) ?qr220
              case qh220 => (simp only [List.getElem?_toArray, List.getElem?_cons_succ, List.getElem?_cons_zero]; exact rfl)
              case qq220 => exact fun _ _ _ h => h
              case qw220 => rfl
              case qy220 => (intro wx hSw; (try dsimp only at hSw); obtain ⟨s1, s2, s3, s4⟩ := hSw; go_simp; try with_reducible rfl)
              try simp only [Act.put, List.setIfInBounds_toArray, List.set_cons_zero, List.set_cons_succ]
              refine late_load (i := 8) (v := ?qv221) (oi := ?qo221) ?qh221 (by kernel_rfl) (by kernel_rfl) (by kernel_rfl) (by kernel_rfl) (by kernel_rfl) (by decide) ?qq221 (Or.inl ⟨?qw221, ?qy221⟩) (by assumption) ?qr221
              case qh221 => (simp only [List.getElem?_toArray, List.getElem?_cons_succ, List.getElem?_cons_zero]; exact rfl)
              case qq221 => exact fun _ _ _ h => h
              case qw221 => rfl
              case qy221 => (intro wx hSw; (try dsimp only at hSw); obtain ⟨s1, s2, s3, s4⟩ := hSw; go_simp; try with_reducible rfl)
              try simp only [Act.put, List.setIfInBounds_toArray, List.set_cons_zero, List.set_cons_succ]
              refine late_one (i := 9) (o := ?qo222) (by kernel_rfl) ?qh222 (fun K hK => ?qr222)
              case qh222 => (simp only [List.getElem?_toArray, List.getElem?_cons_succ, List.getElem?_cons_zero]; exact rfl)
              go_simp
              refine (zeq (.slice ax0 nx0 kx0) (.slice ax2 nx2 kx2) l sx0 sx2 _ ⟨_, _, _, rfl⟩ ⟨_, _, _, rfl⟩ ?r0223 ?r2223).mono ?_
              case r0223 => exact fun w' hb' => HS0.out w' (kp_below (((Below.refl _ w1).alloc (Nat.le_refl _) _).drew.trans (hb'.mono (by show w1.heap.size ≤ (w1.alloc _).heap.size; simp))))
              case r2223 => exact fun w' hb' => HS2.out w' (kp_below (((Below.refl _ w1).alloc (Nat.le_refl _) _).drew.trans (hb'.mono (by show w1.heap.size ≤ (w1.alloc _).heap.size; simp))))
              rintro e w2 ⟨rfl, hb2⟩
              dsimp only
              refine hK.out _ _ (HCV2.out.below ((Below.refl _ _).drew.trans hb2)) ?_
              clear hK K
              try simp only [Act.put, List.setIfInBounds_toArray, List.set_cons_zero, List.set_cons_succ]
              refine late_pure (i := 10) (v := ?qv224) (oi := ?qo224) ?qh224 (by kernel_rfl) (by kernel_rfl) (by kernel_rfl) (by decide) ?qq224 (Or.inl ⟨?qw224, ?qy224⟩) (HCV2.out.below ((Below.refl _ _).drew.trans hb2)) ?qr224
              case qh224 => (simp only [List.getElem?_toArray, List.getElem?_cons_succ, List.getElem?_cons_zero]; exact rfl)
              case qq224 => exact fun _ _ _ h => h
              case qw224 => rfl
              case qy224 => (intro wx _; go_simp; try with_reducible rfl)
              try simp only [Act.put, List.setIfInBounds_toArray, List.set_cons_zero, List.set_cons_succ]
              refine late_done (by kernel_rfl) ?_ _
              have hbx : Below w1.heap.size w1 w2 := (((Below.refl _ w1).alloc (Nat.le_refl _) _).drew).trans (hb2.mono (by show w1.heap.size ≤ (w1.alloc _).heap.size; simp))
              have hBx := hB1.below hbx
              have k0 : w2.cell? ⟨w.heap.size, i, none⟩ = some (.pointer (some ⟨c i, 0, none⟩)) := (hBx.cb.cell (i := i) hin).trans (by simp [hin])
              have k2 := three_cell2 (hBx.own hin).1
              have HBx : Hid (BS w.heap.size j i L j st ea c kb ((t : Int) + 1) fH1 (.slice (some ⟨g', 0, none⟩) L cap') ents w2) := hBx
              clear hBx hB1
              go_wp2
              go_roundw
              case rel => exact ⟨t + 1, by omega, by go_num, ⟨fH1, by have := HBx.out; simpa using this⟩, (hbt.trans hbw).trans (hbx.mono (by have := hbt.size; have := hbw.size; omega))⟩
              case measure => simp [intOf]; omega
            ·
              have hLn : ¬ (t : Int) < (L : Int) := by omega
              go_wp2_with fail
              refine (adv_end w.heap.size j i L t st ea c kb fH esv ents _ hin (by omega) (by omega) hteb (by omega) HBt.out).mono ?_
              rintro e w1 ⟨fH1, rfl, hB1, g1, g2, g3, hbw⟩
              go_wp2
              have hcv : CV w.heap.size j i w1.heap.size nilS (.int .i64 0) nilS _ := hB1.cv hin g1 g2 g3 35
              have HCV2 : Hid (CV w.heap.size j i w1.heap.size nilS (.int .i64 0) nilS (w1.alloc (.cells #[nilS, .int .i64 0, nilS] 35))) := hcv
              clear hcv
              refine wp_region_late 11 (CV w.heap.size j i w1.heap.size nilS (.int .i64 0) nilS) (by kernel_rfl) (HCV2.out.below (Below.refl _ _).drew) (fun hC => ?_)
              refine late_pure (i := 0) (v := ?qv201) (oi := ?qo201) ?qh201 (by kernel_rfl) (by kernel_rfl) (by kernel_rfl) (by decide) ?qq201 (Or.inl ⟨?qw201, ?qy201⟩) (by assumption) ?qr201
              case qh201 => (simp only [List.getElem?_toArray, List.getElem?_cons_succ, List.getElem?_cons_zero]; exact rfl)
              case qq201 => exact fun _ _ _ h => h
              case qw201 => rfl
              case qy201 => (intro wx _; go_simp; try with_reducible rfl)
              try simp only [Act.put, List.setIfInBounds_toArray, List.set_cons_zero, List.set_cons_succ]
              refine late_pure (i := 1) (v := ?qv202) (oi := ?qo202) ?qh202 (by kernel_rfl) (by kernel_rfl) (by kernel_rfl) (by decide) ?qq202 (Or.inl ⟨?qw202, ?qy202⟩) (by assumption) ?qr202
              case qh202 => (simp only [List.getElem?_toArray, List.getElem?_cons_succ, List.getElem?_cons_zero]; exact rfl)
              case qq202 => exact fun _ _ _ h => h
              case qw202 => rfl
              case qy202 => (intro wx _; go_simp; try with_reducible rfl)
              try simp only [Act.put, List.setIfInBounds_toArray, List.set_cons_zero, List.set_cons_succ]
              refine late_pure (i := 2) (v := ?qv203) (oi := ?qo203) ?qh203 (by kernel_rfl) (by kernel_rfl) (by kernel_rfl) (by decide) ?qq203 (Or.inl ⟨?qw203, ?qy203⟩) (by assumption) ?qr203
              case qh203 => (simp only [List.getElem?_toArray, List.getElem?_cons_succ, List.getElem?_cons_zero]; exact rfl)
              case qq203 => exact fun _ _ _ h => h
              case qw203 => rfl
              case qy203 => (intro wx _; go_simp; try with_reducible rfl)
              try simp only [Act.put, List.setIfInBounds_toArray, List.set_cons_zero, List.set_cons_succ]
              refine late_load (i := 3) (v := ?qv204) (oi := ?qo204) ?qh204 (by kernel_rfl) (by kernel_rfl) (by kernel_rfl) (by kernel_rfl) (by kernel_rfl) (by decide) ?qq204 (Or.inl ⟨?qw204, ?qy204⟩) (by assumption) ?qr204
              case qh204 => (simp only [List.getElem?_toArray, List.getElem?_cons_succ, List.getElem?_cons_zero]; exact rfl)
              case qq204 => exact fun _ _ _ h => h
              case qw204 => rfl
              case qy204 => (intro wx hSw; (try dsimp only at hSw); obtain ⟨s1, s2, s3, s4⟩ := hSw; go_simp; try with_reducible rfl)
              try simp only [Act.put, List.setIfInBounds_toArray, List.set_cons_zero, List.set_cons_succ]
              refine late_pure (i := 4) (v := ?qv205) (oi := ?qo205) ?qh205 (by kernel_rfl) (by kernel_rfl) (by kernel_rfl) (by decide) ?qq205 (Or.inl ⟨?qw205, ?qy205⟩) (by assumption) ?qr205
              case qh205 => (simp only [List.getElem?_toArray, List.getElem?_cons_succ, List.getElem?_cons_zero]; exact rfl)
              case qq205 => exact fun _ _ _ h => h
              case qw205 => rfl
              case qy205 => (intro wx _; go_simp; try with_reducible rfl)
              try simp only [Act.put, List.setIfInBounds_toArray, List.set_cons_zero, List.set_cons_succ]
              refine late_pure (i := 5) (v := ?qv206) (oi := ?qo206) ?qh206 (by kernel_rfl) (by kernel_rfl) (by kernel_rfl) (by decide) ?qq206 (Or.inl ⟨?qw206, ?qy206⟩) (by assumption) ?qr206
              case qh206 => (simp only [List.getElem?_toArray, List.getElem?_cons_succ, List.getElem?_cons_zero]; exact rfl)
              case qq206 => exact fun _ _ _ h => h
              case qw206 => rfl
              case qy206 => (intro wx _; go_simp; try with_reducible rfl)
              try simp only [Act.put, List.setIfInBounds_toArray, List.set_cons_zero, List.set_cons_succ]
              refine late_pure (i := 6) (v := ?qv207) (oi := ?qo207) ?qh207 (by kernel_rfl) (by kernel_rfl) (by kernel_rfl) (by decide) ?qq207 (Or.inl ⟨?qw207, ?qy207⟩) (by assumption) ?qr207
              case qh207 => (simp only [List.getElem?_toArray, List.getElem?_cons_succ, List.getElem?_cons_zero]; exact rfl)
              case qq207 => exact fun _ _ _ h => h
              case qw207 => rfl
              case qy207 => (intro wx _; go_simp; try with_reducible rfl)
              try simp only [Act.put, List.setIfInBounds_toArray, List.set_cons_zero, List.set_cons_succ]
              refine late_load (i := 7) (v := ?qv208) (oi := ?qo208) ?qh208 (by kernel_rfl) (by kernel_rfl) (by kernel_rfl) (by kernel_rfl) (by kernel_rfl) (by decide) ?qq208 (Or.inl ⟨?qw208, ?qy208⟩) (by assumption) ?qr208
              case qh208 => (simp only [List.getElem?_toArray, List.getElem?_cons_succ, List.getElem?_cons_zero]; exact rfl)
              case qq208 => exact fun _ _ _ h => h
              case qw208 => rfl
              case qy208 => (intro wx hSw; (try dsimp only at hSw); obtain ⟨s1, s2, s3, s4⟩ := hSw; go_simp; try with_reducible rfl)
              try simp only [Act.put, List.setIfInBounds_toArray, List.set_cons_zero, List.set_cons_succ]
              refine late_load (i := 8) (v := ?qv209) (oi := ?qo209) ?qh209 (by kernel_rfl) (by kernel_rfl) (by kernel_rfl) (by kernel_rfl) (by kernel_rfl) (by decide) ?qq209 (Or.inl ⟨?qw209, ?qy209⟩) (by assumption) ?qr209
              case qh209 => (simp only [List.getElem?_toArray, List.getElem?_cons_succ, List.getElem?_cons_zero]; exact rfl)
              case qq209 => exact fun _ _ _ h => h
              case qw209 => rfl
              case qy209 => (intro wx hSw; (try dsimp only at hSw); obtain ⟨s1, s2, s3, s4⟩ := hSw; go_simp; try with_reducible rfl)
              try simp only [Act.put, List.setIfInBounds_toArray, List.set_cons_zero, List.set_cons_succ]
              refine late_one (i := 9) (o := ?qo210) (by kernel_rfl) ?qh210 (fun K hK => ?qr210)
              case qh210 => (simp only [List.getElem?_toArray, List.getElem?_cons_succ, List.getElem?_cons_zero]; exact rfl)
              go_simp
              refine (zeq nilS nilS 0 ByteArray.empty ByteArray.empty _ ⟨_, _, _, rfl⟩ ⟨_, _, _, rfl⟩ ?r0211 ?r2211).mono ?_
              case r0211 => exact fun w' _ => reads_nil w'
              case r2211 => exact fun w' _ => reads_nil w'
              rintro e w2 ⟨rfl, hb2⟩
              dsimp only
              refine hK.out _ _ (HCV2.out.below ((Below.refl _ _).drew.trans hb2)) ?_
              clear hK K
              try simp only [Act.put, List.setIfInBounds_toArray, List.set_cons_zero, List.set_cons_succ]
              refine late_pure (i := 10) (v := ?qv212) (oi := ?qo212) ?qh212 (by kernel_rfl) (by kernel_rfl) (by kernel_rfl) (by decide) ?qq212 (Or.inl ⟨?qw212, ?qy212⟩) (HCV2.out.below ((Below.refl _ _).drew.trans hb2)) ?qr212
              case qh212 => (simp only [List.getElem?_toArray, List.getElem?_cons_succ, List.getElem?_cons_zero]; exact rfl)
              case qq212 => exact fun _ _ _ h => h
              case qw212 => rfl
              case qy212 => (intro wx _; go_simp; try with_reducible rfl)
              try simp only [Act.put, List.setIfInBounds_toArray, List.set_cons_zero, List.set_cons_succ]
              refine late_done (by kernel_rfl) ?_ _
              have hbx : Below w1.heap.size w1 w2 := (((Below.refl _ w1).alloc (Nat.le_refl _) _).drew).trans (hb2.mono (by show w1.heap.size ≤ (w1.alloc _).heap.size; simp))
              have hBx := hB1.below hbx
              have k0 : w2.cell? ⟨w.heap.size, i, none⟩ = some (.pointer (some ⟨c i, 0, none⟩)) := (hBx.cb.cell (i := i) hin).trans (by simp [hin])
              have k2 := three_cell2 (hBx.own hin).1
              have HBx : Hid (BS w.heap.size j i L j st ea c kb ((t : Int) + 1) fH1 esv ents w2) := hBx
              clear hBx hB1
              go_wp2
              go_roundw
              case rel => exact ⟨t + 1, by omega, by go_num, ⟨fH1, by have := HBx.out; simpa using this⟩, (hbt.trans hbw).trans (hbx.mono (by have := hbt.size; have := hbw.size; omega))⟩
              case measure => simp [intOf]; omega
        · obtain rfl : t = cl := by omega
          have hB := HBt.out
          have m0 : wr.cell? ⟨w.heap.size + 1 + 1, 0, none⟩ = some (.slice (some ⟨w.heap.size + 1, 0, none⟩) j j) := two_cell0 hB.mb
          have m1 : wr.cell? ⟨w.heap.size + 1 + 1, 1, none⟩ = some (.bool st) := two_cell1 hB.mb
          have hstb : (st != st) = false := by simp
          clear hB
          go_wp2
          obtain ⟨wz, rfl⟩ : ∃ wz : World, wz = wr := ⟨_, rfl⟩
          go_loopw [25] (fun pv wq => ∃ p : Nat, p ≤ j ∧ pv = .int .i64 p ∧ Below wz.heap.size wz wq) (fun pv _ => j - (intOf pv).toNat)
          case atStart => exact ⟨0, Nat.zero_le _, rfl, Below.refl _ _⟩
          case round =>
            obtain ⟨p, hp, rfl, hbz⟩ := hrel
            by_cases hlt : p < j
            · have hB := HBt.out.below hbz
              have m0 : wr.cell? ⟨w.heap.size + 1 + 1, 0, none⟩ = some (.slice (some ⟨w.heap.size + 1, 0, none⟩) j j) := two_cell0 hB.mb
              have q0 : wr.cell? ⟨w.heap.size, p, none⟩ = some (.pointer (some ⟨c p, 0, none⟩)) := (hB.cb.cell (i := p) hlt).trans (by simp [hlt])
              have v0 : wr.cell? ⟨w.heap.size + 1, p * 4, none⟩ = some (.iface 29 (.pointer (some ⟨c p, 0, none⟩))) := (hB.hb.cell (by omega)).trans (by rw [hB.hd (p * 4) (by omega) (.inr (by omega)), (headV_q c kb p).1])
              have hltI : (p : Int) < (j : Int) := by omega
              have hl0 : (0 : Int) ≤ (p : Int) := by omega
              have hneq := neq_cur (c p)
              by_cases hpi : p = i
              · have hpb : ((p : Int) == (i : Int)) = true := by rw [hpi]; simp
                clear hB hpi
                go_wp2
                go_quiet (fail)
                go_wp2
                go_roundw
                case rel => exact ⟨p + 1, by omega, by go_num, below_drewN hbz _⟩
                case measure => simp [intOf]; omega
              · have hpb : ((p : Int) == (i : Int)) = false := by simp; omega
                obtain ⟨es, hcp⟩ := hB.oth p hlt hpi
                have k2 := three_cell2 hcp
                have hkey := hB.key p hlt
                have cl1 := lt_of_block hcp
                have v1 : wr.cell? ⟨w.heap.size + 1, p * 4 + 1, none⟩ = some (.slice (some ⟨kb p, 0, none⟩) 1 1) := (hB.hb.cell (by omega)).trans (by rw [hB.hd (p * 4 + 1) (by omega) (.inl (by omega)), (headV_q c kb p).2.1])
                have v2 : wr.cell? ⟨w.heap.size + 1, p * 4 + 1 + 1, none⟩ = some (.int .i64 (-(p : Int))) := (hB.hb.cell (i := p * 4 + 2) (by omega)).trans (by rw [hB.hd (p * 4 + 2) (by omega) (.inl (by omega)), (headV_q c kb p).2.2.1])
                have v3 : wr.cell? ⟨w.heap.size + 1, p * 4 + 1 + 2, none⟩ = some (.slice none 0 0) := (hB.hb.cell (i := p * 4 + 3) (by omega)).trans (by rw [hB.hd (p * 4 + 3) (by omega) (.inl (by omega)), (headV_q c kb p).2.2.2])
                have HK : Hid _ := hkey
                have hl1 := hB.cb.lt
                have hl2 := hB.hb.lt
                have hl3 : w.heap.size + 1 + 1 < wr.heap.size := hB.lt
                clear hB hpi hkey hcp
                go_wp2
                go_quiet (fail)
                go_wp2_with fail
                refine (beq _ _ (strOfNums [109]) (strOfNums [109]) _ ?ra ?rb).mono ?_
                case ra => exact reads_row _ (kb p) 1 1 [109] rfl (hp_alloc (w := wr.drewN nq) HK.out)
                case rb => exact reads_row _ wr.heap.size 1 1 [109] rfl (hp_new (w := wr.drewN nq) rfl)
                rintro e w' ⟨rfl, rfl⟩
                have z0 : ((wr.drewN nq).alloc (.cells #[.int .u8 109] 5)).cell? ⟨w.heap.size + 1 + 1, 0, none⟩ = some (.slice (some ⟨w.heap.size + 1, 0, none⟩) j j) := cell_al (w := wr.drewN nq) m0
                have z3 : ((wr.drewN nq).alloc (.cells #[.int .u8 109] 5)).cell? ⟨w.heap.size + 1, p * 4 + 1 + 2, none⟩ = some (.slice none 0 0) := cell_al (w := wr.drewN nq) v3
                have hss : ((strOfNums [109]).toList == (strOfNums [109]).toList) = true := by simp
                go_wp2
                go_roundw
                case rel => exact ⟨p + 1, by omega, by go_num, (below_drewN hbz _).alloc (by have := hbz.size; exact this) _⟩
                case measure => simp [intOf]; omega
            · go_wp2
              go_ret
              exact ⟨rfl, hbt.trans (hbz.mono (by have := hbt.size; exact this))⟩
end Go.Proofs.Ybulkclou
