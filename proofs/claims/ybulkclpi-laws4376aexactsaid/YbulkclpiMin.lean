import Derived.Test.YbulkclpiRows
import Derived.Test.YbulkclpiLaw
import Derived.WalkKit
import Derived.WalkSmall
import Derived.WalkLawsBesides
import Derived.Deep.OwnRows
import Derived.Deep.QuietTactic
import Derived.BigQuiet
import Derived.BigRegion
import Derived.Deep.DeepMust
namespace Go.Proofs.Ybulkclpi
open Go.RowKit
set_option linter.unusedVariables false
set_option linter.unusedSimpArgs false

theorem Yba.info3 : (Yba.prog.info? 3).map (fun i => (i.zero, i.size, i.bytes)) = some (some (.int .i64 0), 1, 8) := by kernel_rfl

theorem tmod8 (a : Int) : -7 ≤ a.tmod 8 ∧ a.tmod 8 ≤ 7 := by
  have h1 := Int.tmod_lt_of_pos a (b := 8) (by omega)
  have h2 := Int.lt_tmod_of_pos a (b := 8) (by omega)
  omega
theorem made0 (m : Nat) (h : 1 ≤ m) : (madeCells #[Value.int .i64 0] m)[0]? = some (.int .i64 0) := by
  have : 0 < m := h
  simp [madeCells, this]
/-- The row behind the first store. -/
theorem row_start (w : World) (m : Nat) (v : Int) (f : Nat → Int) (hm : 1 ≤ m) (h : v = f 0) :
    (w.alloc (.cells ((madeCells #[Value.int .i64 0] m).setIfInBounds 0 (.int .i64 v)) 3)).rowIs w.heap.size 3 m (fun t => .int .i64 (if t < 1 then f t else 0)) := by
  refine ⟨_, heap_alloc_new _ _, by simp [size_madeCells], fun t ht => ?_⟩
  rw [Array.getElem?_setIfInBounds]
  by_cases e : t = 0
  · subst e; simp [size_madeCells, h, ht]
  · rw [if_neg (Ne.symm e)]
    have : ¬ t < 1 := by omega
    simp [madeCells, ht, this, Nat.mod_one]

theorem row_next {wr : World} {B m k : Nat} {v : Int} {F : Nat → Int} (h : wr.rowIs B 3 m (fun t => .int .i64 (if t < k then F t else 0))) (hv : v = F k) :
    (wr.setCell ⟨B, k, none⟩ (.int .i64 v)).rowIs B 3 m (fun t => .int .i64 (if t < k + 1 then F t else 0)) := by
  refine (h.set k (.int .i64 v)).congr fun t ht => ?_
  by_cases e : t = k
  · subst e; simp [hv]
  · by_cases e2 : t < k
    · simp [e, e2, Nat.lt_succ_of_lt e2]
    · have : ¬ t < k + 1 := by omega
      simp [e, e2, this]

theorem min_edge (a0 : Option Addr) (len0 cap0 : Nat) (a1 a2 a3 : Int) (w : World) (hl : len0 ≤ 9223372036854775807) (h : len0 = 0 ∨ 1024 < len0) :
    Calls Yba.prog 4 #[.slice a0 len0 cap0, .int .u16 a1, .int .u16 a2, .int .i32 a3] w fun e w' => e = .returned (.bool true) ∧ Below w.heap.size w w' := by
  rcases h with h | h
  · subst h
    go_enter Yba.func4, Yba.ntmps4
    go_wp2
    go_ret
    exact ⟨rfl, Below.refl _ _⟩
  · have h2 : (1024 : Int) < (len0 : Int) := by omega
    go_enter Yba.func4, Yba.ntmps4
    go_wp2
    go_ret
    exact ⟨rfl, Below.refl _ _⟩

set_option maxHeartbeats 1000000 in
theorem min_main (b off m cap lo q hi h1 : Nat) (zs : List Int) (rlo rhi nraw r8 : Int) (w : World) (hm1 : 1 ≤ m) (hm2 : m ≤ 1024) (hcell : ∀ t, t < m → w.cell? ⟨b, off + t, none⟩ = some (.int .u8 (zs.getD t 0)))
    (hz : ∀ i, 0 ≤ zs.getD i 0 ∧ zs.getD i 0 ≤ 255) (hr1 : 0 ≤ rlo ∧ rlo ≤ 65535) (hr2 : 0 ≤ rhi ∧ rhi ≤ 65535) (hr3 : -2147483648 ≤ nraw ∧ nraw ≤ 2147483647) (hlo : rlo % (m : Int) = lo) (hlm : lo < m) (hq : rhi % ((m : Int) - (lo : Int)) = q) (hqm : q < m - lo)
    (hhi : (lo : Int) + 1 + q = hi) (hh1 : (hi : Int) - 1 = h1) (hr8 : nraw.tmod 8 = r8) (hr8b : -7 ≤ r8 ∧ r8 ≤ 7) :
    Calls Yba.prog 4 #[.slice (some ⟨b, off, none⟩) m cap, .int .u16 rlo, .int .u16 rhi, .int .i32 nraw] w fun e w' => e = .returned (.bool true) ∧ Below w.heap.size w w' := by
  have hbw : b < w.heap.size := World.block_lt_of_cell? w _ (hcell 0 (by omega))
  have hl0 : ((m : Int) == 0) = false := by simp; omega
  have hl1 : ¬ (1024 : Int) < (m : Int) := by omega
  have hmk := run_make_row' (P := Yba.prog) 24 3 (.int .i64 0) 8 Yba.underlying24 Yba.info3 rfl .i64 .i64 m (by omega) (by omega)
  have hc0 : w.cell? ⟨b, off, none⟩ = some (.int .u8 (zs.getD 0 0)) := hcell 0 (by omega)
  have hz0 := hz 0
  have hmc := made0 m hm1
  obtain ⟨z0, hz0e⟩ : ∃ z0, z0 = zs.getD 0 0 := ⟨_, rfl⟩
  rw [← hz0e] at hc0 hz0
  have HZ0 : Hid (z0 = zs.getD 0 0) := hz0e
  clear hz0e
  have HC : Hid (∀ t, t < m → w.cell? ⟨b, off + t, none⟩ = some (.int .u8 (zs.getD t 0))) := hcell
  have HZ : Hid (∀ i, 0 ≤ zs.getD i 0 ∧ zs.getD i 0 ≤ 255) := hz
  clear hcell hz
  go_enter Yba.func4, Yba.ntmps4
  go_wp2
  go_loopw [11] (fun kv wr => ∃ k : Nat, 1 ≤ k ∧ k ≤ m ∧ kv = .int .i64 k ∧ wr.rowIs w.heap.size 3 m (fun t => .int .i64 (if t < k then cutM zs t else 0)) ∧ Below w.heap.size w wr) (fun kv _ => m - (intOf kv).toNat)
  case atStart => exact ⟨1, Nat.le_refl _, hm1, rfl, row_start w m _ (cutM zs) hm1 (by rw [HZ0.out]; rfl), (Below.refl _ _).alloc (Nat.le_refl _) _⟩
  case round =>
    obtain ⟨k, hk1, hk2, rfl, hrow, hbel⟩ := hrel
    by_cases hlt : k < m
    · obtain ⟨j0, hj0⟩ : ∃ j0 : Nat, (k : Int) - 1 = j0 := ⟨k - 1, by omega⟩
      have hfb := cutM_bd zs HZ.out j0
      have hfs : Hid (cutM zs k = cutM zs j0 + zs.getD k 0 % 3) := by
        obtain ⟨j, rfl⟩ : ∃ j, k = j + 1 := ⟨k - 1, by omega⟩
        obtain rfl : j0 = j := by omega
        rfl
      have hzk := HZ.out k
      have hck : wr.cell? ⟨b, off + k, none⟩ = some (.int .u8 (zs.getD k 0)) := (hbel.cell (by exact hbw)).trans (HC.out k hlt)
      obtain ⟨z, hze⟩ : ∃ z, z = zs.getD k 0 := ⟨_, rfl⟩
      obtain ⟨fj, hfe⟩ : ∃ fj, fj = cutM zs j0 := ⟨_, rfl⟩
      rw [← hze] at hzk hck
      have r1 : wr.cell? ⟨w.heap.size, j0, none⟩ = some (.int .i64 fj) := (hrow.cell (i := j0) (by omega)).trans (by rw [hfe, if_pos (by omega)])
      have r2 : wr.cell? ⟨w.heap.size, k, none⟩ = some (.int .i64 0) := (hrow.cell (i := k) hlt).trans (by simp)
      have r2f := hrow.frozen k
      rw [← hfe] at hfb
      have HE : Hid (z = zs.getD k 0 ∧ fj = cutM zs j0) := ⟨hze, hfe⟩
      have HR : Hid (wr.rowIs w.heap.size 3 m (fun t => .int .i64 (if t < k then cutM zs t else 0))) := hrow
      have w1 : IntKind.i64.wrap (j0 : Int) = (j0 : Int) := by rw [IntKind.wrap_i64]; omega
      have w2 : IntKind.i64.wrap (fj + z % 3) = fj + z % 3 := by rw [IntKind.wrap_i64]; omega
      have b1 : (0 : Int) ≤ (j0 : Int) := by omega
      have b2 : (j0 : Int) < (m : Int) := by omega
      have b3 : (k : Int) < (m : Int) := by omega
      have b4 : (0 : Int) ≤ (k : Int) := by omega
      have hxl := hrow.lt
      clear hze hfe hrow
      go_wp2
      go_big_region
      go_wp2
      go_roundw
      case rel => exact ⟨k + 1, by omega, by omega, by go_num, (row_next HR.out (by rw [hfs.out, ← HE.out.1, ← HE.out.2])).drew, (hbel.setCell (p := ⟨w.heap.size, k, none⟩) (Nat.le_refl _) _).drew⟩
      case measure => simp [intOf]; omega
    · obtain rfl : k = m := by omega
      have hro : wr.rowIs w.heap.size 3 k (fun t => .int .i64 (held (cutM zs) k t)) := hrow.congr fun t ht => by simp [ht, held_at]
      have hf : ∀ t, -1000000000 ≤ held (cutM zs) k t ∧ held (cutM zs) k t ≤ 1000000000 := fun t => by
        have := cutM_bd zs HZ.out (min t (k - 1))
        unfold held
        omega
      have hmo : ∀ s t, s ≤ t → held (cutM zs) k s ≤ held (cutM zs) k t := fun s t hst => cutM_step zs HZ.out _ _ (by omega)
      obtain ⟨f, hfe⟩ : ∃ f, f = held (cutM zs) k := ⟨_, rfl⟩
      rw [← hfe] at hro hf hmo
      clear hfe HC HZ HZ0 hrow
      have HRO : Hid (wr.rowIs w.heap.size 3 k (fun t => .int .i64 (f t))) := hro
      have HF : Hid (∀ t, -1000000000 ≤ f t ∧ f t ≤ 1000000000) := hf
      have HMO : Hid (∀ s t, s ≤ t → f s ≤ f t) := hmo
      have d1 := hro.cell (i := lo) (by omega)
      have d2 := hro.cell (i := h1) (by omega)
      have f1 := hf lo
      have f2 := hf h1
      have w1 : IntKind.i64.wrap (h1 : Int) = (h1 : Int) := by rw [IntKind.wrap_i64]; omega
      have w2 : IntKind.i64.wrap (f lo + f h1) = f lo + f h1 := by rw [IntKind.wrap_i64]; omega
      have w3 : IntKind.i64.wrap (f lo + f h1 + r8) = f lo + f h1 + r8 := by rw [IntKind.wrap_i64]; omega
      have b1 : (0 : Int) ≤ (h1 : Int) := by omega
      have b2 : (h1 : Int) < (k : Int) := by omega
      have b3 : (lo : Int) < (k : Int) := by omega
      have b4 : (0 : Int) ≤ (lo : Int) := by omega
      clear hro hf hmo
      go_wp2_with (go_at_call 5; refine (range_any k lo q rlo rhi _ hm1 hm2 hr1 hr2 hlo hlm hq hqm).mono ?_; rintro e w' ⟨rfl, hw⟩; obtain rfl := hw.symm)
      go_quiet (fail)
      go_wp2_with fail
      obtain ⟨n, hn⟩ : ∃ n, n = f lo + f h1 + r8 := ⟨_, rfl⟩
      rw [← hn]
      have hnb : -10000000000 ≤ n ∧ n ≤ 10000000000 := by omega
      refine (near_any w.heap.size k k lo hi n f _ (by omega) (by omega) (by omega) hnb HF.out HMO.out (fun t ht => by exact HRO.out.cell ht)).mono ?_
      rintro e w1 ⟨s, hs1, hs2, hs3, hs4, rfl, hb1'⟩
      have hb1 : Below wr.heap.size wr w1 := ⟨hb1'.os, hb1'.tape, hb1'.output, hb1'.size, hb1'.block⟩
      obtain ⟨l1, l2, l3, _⟩ := nm_law f lo hi s n (by omega) hs1 hs2 hs3 hs4 HMO.out
      obtain ⟨r, hr⟩ : ∃ r, r = nm f lo hi n s := ⟨_, rfl⟩
      rw [← hr] at l1 l2 l3 ⊢
      have HL3 : Hid (∀ t, lo ≤ t → t < hi → absI (2 * f r - n) ≤ absI (2 * f t - n)) := l3
      have hro1 : w1.rowIs w.heap.size 3 k (fun t => .int .i64 (f t)) := HRO.out.of_block (hb1.block _ HRO.out.lt)
      have HR1 : Hid (w1.rowIs w.heap.size 3 k (fun t => .int .i64 (f t))) := hro1
      have e1 := hro1.cell (i := r) (by omega)
      have f3 := HF.out r
      have hrI : (r : Int) < (k : Int) := by omega
      have hrl : ¬ (r : Int) < (lo : Int) := by omega
      have hrh : ¬ (hi : Int) ≤ (r : Int) := by omega
      clear hs3 hs4 l3 hr hro1 hb1' d1 d2 w2 w3 hn
      go_wp2_with (go_at_call 6; refine (abs_any _ _ (by omega) (by omega)).mono ?_; rintro e w' ⟨rfl, hw⟩; obtain rfl := hw.symm)
      go_loop [17] (fun iv => ∃ i : Nat, lo ≤ i ∧ i ≤ hi ∧ iv = .int .i64 i) (fun iv => hi - (intOf iv).toNat)
      case atStart => exact ⟨lo, Nat.le_refl _, by omega, rfl⟩
      case round =>
        obtain ⟨i, hi1, hi2, rfl⟩ := hrel
        by_cases hlt2 : i < hi
        · have e2 := HR1.out.cell (i := i) (by omega)
          have f4 := HF.out i
          have hnl : ¬ absI (2 * f i - n) < absI (2 * f r - n) := by have := HL3.out i hi1 hlt2; omega
          have hiI : (i : Int) < (k : Int) := by omega
          go_wp2_with (go_at_call 6; refine (abs_any _ _ (by omega) (by omega)).mono ?_; rintro e w' ⟨rfl, hw⟩; obtain rfl := hw.symm)
          go_round
          case rel => exact ⟨i + 1, by omega, by omega, by go_num⟩
          case measure => simp [intOf]; omega
        · go_wp2
          go_ret
          exact ⟨rfl, hbel.trans (hb1.mono (by have := hbel.size; omega))⟩
end Go.Proofs.Ybulkclpi
