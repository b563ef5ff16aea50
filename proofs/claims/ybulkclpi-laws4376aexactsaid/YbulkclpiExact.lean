import Derived.Test.YbulkclpiRows
import Derived.Test.YbulkclpiMin
import Derived.Laws.CopyOwn
import Derived.Deep.Cut
namespace Go.Proofs.Ybulkclpi
open Go.RowKit
set_option linter.unusedVariables false
set_option linter.unusedSimpArgs false

theorem Yba.size3 : (Yba.prog.info? 3).map (fun i => i.size) = some 1 := by kernel_rfl
def cells (f : Nat → Int) (k : Nat) : List Value := (List.range k).map (fun t => .int .i64 (f t))
theorem cells_get {f : Nat → Int} {k j : Nat} {v : Value} (h : (cells f k)[j]? = some v) : j < k ∧ v = .int .i64 (f j) := by
  unfold cells at h
  rw [List.getElem?_map] at h
  by_cases hj : j < k
  · simp [hj] at h; exact ⟨hj, h.symm⟩
  · simp [hj] at h
theorem row_copy {w : World} {g k : Nat} {f : Nat → Int} {cur : List Value} (hc : cur.length = k) (h : w.heap[g]? = some (.cells (splice cur 0 (cells f k)).toArray 3 (0, 0))) : w.rowIs g 3 k (fun t => .int .i64 (f t)) := by
  have hl : (cells f k).length = k := by simp [cells]
  have e : splice cur 0 (cells f k) = cells f k := by simp [splice, hl, hc]
  rw [e] at h
  refine ⟨_, h, by simpa using hl, fun t ht => ?_⟩
  simp [cells, ht]

theorem exact_edge (a0 : Option Addr) (len0 cap0 : Nat) (a1 a2 a3 : Int) (w : World) (hl : len0 ≤ 9223372036854775807) (h : len0 = 0 ∨ 1024 < len0) :
    Calls Yba.prog 3 #[.slice a0 len0 cap0, .int .u16 a1, .int .u16 a2, .int .i32 a3] w fun e w' => e = .returned (.bool true) ∧ Below w.heap.size w w' := by
  rcases h with h | h
  · subst h
    go_enter Yba.func3, Yba.ntmps3
    go_wp2
    go_ret
    exact ⟨rfl, Below.refl _ _⟩
  · have h2 : (1024 : Int) < (len0 : Int) := by omega
    go_enter Yba.func3, Yba.ntmps3
    go_wp2
    go_ret
    exact ⟨rfl, Below.refl _ _⟩

set_option maxHeartbeats 1000000 in
theorem exact_main (b off m cap lo q hi h1 : Nat) (zs : List Int) (rlo rhi nraw : Int) (w : World) (hm1 : 1 ≤ m) (hm2 : m ≤ 1024) (hcell : ∀ t, t < m → w.cell? ⟨b, off + t, none⟩ = some (.int .u8 (zs.getD t 0)))
    (hz : ∀ i, 0 ≤ zs.getD i 0 ∧ zs.getD i 0 ≤ 255) (hr1 : 0 ≤ rlo ∧ rlo ≤ 65535) (hr2 : 0 ≤ rhi ∧ rhi ≤ 65535) (hr3 : -2147483648 ≤ nraw ∧ nraw ≤ 2147483647) (hlo : rlo % (m : Int) = lo) (hlm : lo < m) (hq : rhi % ((m : Int) - (lo : Int)) = q) (hqm : q < m - lo)
    (hhi : (lo : Int) + 1 + q = hi) (hh1 : (hi : Int) - 1 = h1) :
    Calls Yba.prog 3 #[.slice (some ⟨b, off, none⟩) m cap, .int .u16 rlo, .int .u16 rhi, .int .i32 nraw] w fun e w' => e = .returned (.bool true) ∧ Below w.heap.size w w' := by
  have hbw : b < w.heap.size := World.block_lt_of_cell? w _ (hcell 0 (by omega))
  have hl0 : ((m : Int) == 0) = false := by simp; omega
  have hl1 : ¬ (1024 : Int) < (m : Int) := by omega
  have hmk := run_make_row' (P := Yba.prog) 24 3 (.int .i64 0) 8 Yba.underlying24 Yba.info3 rfl .i64 .i64 m (by omega) (by omega)
  have hc0 : w.cell? ⟨b, off, none⟩ = some (.int .u8 (zs.getD 0 0)) := hcell 0 (by omega)
  have hz0 := hz 0
  have hmc := made0 m hm1
  obtain ⟨z0, hz0e⟩ : ∃ z0, z0 = zs.getD 0 0 := ⟨_, rfl⟩
  rw [← hz0e] at hc0 hz0
  have HZ0 : Hid (z0 = zs.getD 0 0) := hz0e
  clear hz0e
  have HC : Hid (∀ t, t < m → w.cell? ⟨b, off + t, none⟩ = some (.int .u8 (zs.getD t 0))) := hcell
  have HZ : Hid (∀ i, 0 ≤ zs.getD i 0 ∧ zs.getD i 0 ≤ 255) := hz
  clear hcell hz
  go_enter Yba.func3, Yba.ntmps3
  go_wp2
  go_loopw [11] (fun kv wr => ∃ k : Nat, 1 ≤ k ∧ k ≤ m ∧ kv = .int .i64 k ∧ wr.rowIs w.heap.size 3 m (fun t => .int .i64 (if t < k then cutE zs t else 0)) ∧ Below w.heap.size w wr) (fun kv _ => m - (intOf kv).toNat)
  case atStart => exact ⟨1, Nat.le_refl _, hm1, rfl, row_start w m _ (cutE zs) hm1 (by rw [HZ0.out]; rfl), (Below.refl _ _).alloc (Nat.le_refl _) _⟩
  case round =>
    obtain ⟨k, hk1, hk2, rfl, hrow, hbel⟩ := hrel
    by_cases hlt : k < m
    · obtain ⟨j0, hj0⟩ : ∃ j0 : Nat, (k : Int) - 1 = j0 := ⟨k - 1, by omega⟩
      have hfb := cutE_bd zs HZ.out j0
      have hfs : Hid (cutE zs k = cutE zs j0 + 1 + zs.getD k 0) := by
        obtain ⟨j, rfl⟩ : ∃ j, k = j + 1 := ⟨k - 1, by omega⟩
        obtain rfl : j0 = j := by omega
        rfl
      have hzk := HZ.out k
      have hck : wr.cell? ⟨b, off + k, none⟩ = some (.int .u8 (zs.getD k 0)) := (hbel.cell (by exact hbw)).trans (HC.out k hlt)
      obtain ⟨z, hze⟩ : ∃ z, z = zs.getD k 0 := ⟨_, rfl⟩
      obtain ⟨fj, hfe⟩ : ∃ fj, fj = cutE zs j0 := ⟨_, rfl⟩
      rw [← hze] at hzk hck
      have r1 : wr.cell? ⟨w.heap.size, j0, none⟩ = some (.int .i64 fj) := (hrow.cell (i := j0) (by omega)).trans (by rw [hfe, if_pos (by omega)])
      have r2 : wr.cell? ⟨w.heap.size, k, none⟩ = some (.int .i64 0) := (hrow.cell (i := k) hlt).trans (by simp)
      have r2f := hrow.frozen k
      rw [← hfe] at hfb
      have HE : Hid (z = zs.getD k 0 ∧ fj = cutE zs j0) := ⟨hze, hfe⟩
      have HR : Hid (wr.rowIs w.heap.size 3 m (fun t => .int .i64 (if t < k then cutE zs t else 0))) := hrow
      have w1 : IntKind.i64.wrap (j0 : Int) = (j0 : Int) := by rw [IntKind.wrap_i64]; omega
      have w2 : IntKind.i64.wrap (fj + 1) = fj + 1 := by rw [IntKind.wrap_i64]; omega
      have w3 : IntKind.i64.wrap (fj + 1 + z) = fj + 1 + z := by rw [IntKind.wrap_i64]; omega
      have b1 : (0 : Int) ≤ (j0 : Int) := by omega
      have b2 : (j0 : Int) < (m : Int) := by omega
      have b3 : (k : Int) < (m : Int) := by omega
      have b4 : (0 : Int) ≤ (k : Int) := by omega
      have hxl := hrow.lt
      clear hze hfe hrow
      go_wp2
      go_big_region
      go_wp2
      go_roundw
      case rel => exact ⟨k + 1, by omega, by omega, by go_num, (row_next HR.out (by rw [hfs.out, ← HE.out.1, ← HE.out.2])).drew, (hbel.setCell (p := ⟨w.heap.size, k, none⟩) (Nat.le_refl _) _).drew⟩
      case measure => simp [intOf]; omega
    · obtain rfl : k = m := by omega
      have hro : wr.rowIs w.heap.size 3 k (fun t => .int .i64 (held (cutE zs) k t)) := hrow.congr fun t ht => by simp [ht, held_at]
      have hf : ∀ t, -1000000000 ≤ held (cutE zs) k t ∧ held (cutE zs) k t ≤ 1000000000 := fun t => by
        have := cutE_bd zs HZ.out (min t (k - 1))
        unfold held
        omega
      have hst : ∀ s t, s < t → t < k → held (cutE zs) k s < held (cutE zs) k t := fun s t h1 h2 => by
        rw [held_at _ (by omega), held_at _ h2]
        exact cutE_step zs HZ.out _ _ h1
      have hmo : ∀ s t, s ≤ t → held (cutE zs) k s ≤ held (cutE zs) k t := fun s t h => by
        unfold held
        by_cases e : min s (k - 1) = min t (k - 1)
        · rw [e]; exact Int.le_refl _
        · exact Int.le_of_lt (cutE_step zs HZ.out _ _ (by omega))
      obtain ⟨f, hfe⟩ : ∃ f, f = held (cutE zs) k := ⟨_, rfl⟩
      rw [← hfe] at hro hf hmo hst
      clear hfe HC HZ HZ0 hrow
      have HRO : Hid (wr.rowIs w.heap.size 3 k (fun t => .int .i64 (f t))) := hro
      have HF : Hid (∀ t, -1000000000 ≤ f t ∧ f t ≤ 1000000000) := hf
      have HMO : Hid (∀ s t, s ≤ t → f s ≤ f t) := hmo
      have HST : Hid (∀ s t, s < t → t < k → f s < f t) := hst
      have hxl := hro.lt
      have hsrc : Hid (∀ (o : Obj) (j : Nat) (v : Value), (cells f k)[j]? = some v → (wr.alloc o).cell? ((⟨w.heap.size, 0, none⟩ : Addr).add j) = some v) := fun o j v h => by
        obtain ⟨hj, rfl⟩ := cells_get h
        rw [Addr.add_lit, Nat.zero_add]
        exact (hro.alloc o).cell hj
      clear hro hf hmo hst
      go_upto_region 11 with fail
      have tok : True := trivial
      go_wp2_with (have _t := tok; refine wpList_copy_splice rfl (.tmp 58) (.tmp 59) 24 24 rfl 3 Yba.underlying24 Yba.size3 (some ⟨wr.heap.size, 0, none⟩) (some ⟨w.heap.size, 0, none⟩) k k k k rfl rfl wr.heap.size 0 (madeCells #[Value.int .i64 0] k).toList 3 (by simpa using heap_alloc_new wr _) (cells f k) (by simp [cells]) (fun _ => ⟨rfl, _, rfl, hsrc.out _⟩) (by simp [cells, size_madeCells]) (by intro v hv; obtain ⟨j, hj⟩ := List.getElem?_of_mem hv; obtain ⟨_, rfl⟩ := cells_get hj; rfl) wr.heap.size wr ((Below.refl _ _).alloc (Nat.le_refl _) _) (Nat.le_refl _) ?_; intro w2 hk2 hb2; clear tok)
      have hrc : w2.rowIs w.heap.size 3 k (fun t => .int .i64 (f t)) := HRO.out.of_block (hb2.block _ hxl)
      have hrk : w2.rowIs wr.heap.size 3 k (fun t => .int .i64 (f t)) := row_copy (by simp [size_madeCells]) hk2.out
      have HRC : Hid (w2.rowIs w.heap.size 3 k (fun t => .int .i64 (f t))) := hrc
      have HRK : Hid (w2.rowIs wr.heap.size 3 k (fun t => .int .i64 (f t))) := hrk
      have d1 := hrc.cell (i := lo) (by omega)
      have d2 := hrc.cell (i := h1) (by omega)
      have f1 := HF.out lo
      have f2 := HF.out h1
      obtain ⟨n, hn⟩ : ∃ n, f lo + f h1 + nraw = n := ⟨_, rfl⟩
      have hnb : -10000000000 ≤ n ∧ n ≤ 10000000000 := by omega
      have x1 : IntKind.i64.wrap (h1 : Int) = (h1 : Int) := by rw [IntKind.wrap_i64]; omega
      have x2 : IntKind.i64.wrap (f lo + f h1) = f lo + f h1 := by rw [IntKind.wrap_i64]; omega
      have x3 : IntKind.i64.wrap n = n := by rw [IntKind.wrap_i64]; omega
      have b1 : (0 : Int) ≤ (h1 : Int) := by omega
      have b2 : (h1 : Int) < (k : Int) := by omega
      have b3 : (lo : Int) < (k : Int) := by omega
      have b4 : (0 : Int) ≤ (lo : Int) := by omega
      clear hrc hrk hk2
      refine (range_any k lo q rlo rhi _ hm1 hm2 hr1 hr2 hlo hlm hq hqm).mono ?_
      rintro e w' ⟨rfl, hw⟩
      obtain rfl := hw.symm
      go_wp2
      go_quiet (fail)
      go_wp2
      clear d1 d2 x1 x2 x3 hn hmk hmc
      obtain ⟨wk, rfl⟩ : ∃ wk : World, wk = wr := ⟨_, rfl⟩
      go_loopw [16, 17] (fun bv iv wq => ∃ bt i : Nat, lo ≤ bt ∧ bt < i ∧ i ≤ hi ∧ bv = .int .i64 bt ∧ iv = .int .i64 i ∧ (∀ t, lo ≤ t → t < i → absI (2 * f bt - n) ≤ absI (2 * f t - n)) ∧ (∀ t, lo ≤ t → t < bt → absI (2 * f bt - n) < absI (2 * f t - n)) ∧ Below w2.heap.size w2 wq) (fun _ iv _ => hi - (intOf iv).toNat)
      case atStart => exact ⟨lo, lo + 1, Nat.le_refl _, by omega, by omega, rfl, by go_num, fun t h1 h2 => by obtain rfl : t = lo := by omega
                                                                                                              exact Int.le_refl _, fun t h1 h2 => absurd h2 (by omega), below_drewN (Below.refl _ _) _⟩
      case round =>
        obtain ⟨bt, i, hb1, hbi, hih, rfl, rfl, p1, p2, hbq⟩ := hrel
        have HRQ : Hid (wr.rowIs w.heap.size 3 k (fun t => .int .i64 (f t))) := HRC.out.of_block (hbq.block _ HRC.out.lt)
        have P1 : Hid _ := p1
        have P2 : Hid _ := p2
        clear p1 p2
        by_cases hlt2 : i < hi
        · have e1 := HRQ.out.cell (i := i) (by omega)
          have e2 := HRQ.out.cell (i := bt) (by omega)
          have f3 := HF.out i
          have f4 := HF.out bt
          have y1 : IntKind.i64.wrap (2 * f i) = 2 * f i := by rw [IntKind.wrap_i64]; omega
          have y2 : IntKind.i64.wrap (2 * f i - n) = 2 * f i - n := by rw [IntKind.wrap_i64]; omega
          have y3 : IntKind.i64.wrap (2 * f bt) = 2 * f bt := by rw [IntKind.wrap_i64]; omega
          have y4 : IntKind.i64.wrap (2 * f bt - n) = 2 * f bt - n := by rw [IntKind.wrap_i64]; omega
          have b5 : (i : Int) < (k : Int) := by omega
          have b6 : (bt : Int) < (k : Int) := by omega
          have b7 : (0 : Int) ≤ (i : Int) := by omega
          have b8 : (0 : Int) ≤ (bt : Int) := by omega
          by_cases hc : absI (2 * f i - n) < absI (2 * f bt - n)
          · go_wp2
            go_quiet ((go_at_call 6; refine Calls.quiet_of_same (abs_any _ _ ?_ ?_) <;> omega))
            go_wp2
            go_roundw
            case rel => exact ⟨i, i + 1, by omega, by omega, by omega, rfl, by go_num, fun t h1 h2 => by
                          by_cases e : t = i
                          · rw [e]; exact Int.le_refl _
                          · have := P1.out t h1 (by omega); omega, fun t h1 h2 => by have := P1.out t h1 h2; omega, below_drewN hbq _⟩
            case measure => simp [intOf]; omega
          · go_wp2
            go_quiet ((go_at_call 6; refine Calls.quiet_of_same (abs_any _ _ ?_ ?_) <;> omega))
            go_wp2
            go_roundw
            case rel => exact ⟨bt, i + 1, by omega, by omega, by omega, rfl, by go_num, fun t h1 h2 => by
                          by_cases e : t = i
                          · rw [e]; omega
                          · exact P1.out t h1 (by omega), P2.out, below_drewN hbq _⟩
            case measure => simp [intOf]; omega
        · obtain rfl : i = hi := by omega
          go_wp2_with fail
          refine (near_any w.heap.size k k lo i n f _ (by omega) (by omega) (by omega) hnb HF.out HMO.out (fun t ht => by exact HRQ.out.cell ht)).mono ?_
          rintro e w3 ⟨s, hs1, hs2, hs3, hs4, rfl, hb3'⟩
          have hb3 : Below w2.heap.size w2 w3 := hbq.trans (hb3'.mono hbq.size)
          obtain ⟨l1, l2, l3, l4⟩ := nm_law f lo i s n (by omega) hs1 hs2 hs3 hs4 HMO.out
          have l5 := l4 (fun a c h1 h2 => HST.out a c h1 (by omega))
          obtain ⟨r, hr⟩ : ∃ r, r = nm f lo i n s := ⟨_, rfl⟩
          rw [← hr] at l1 l2 l3 l5 ⊢
          have heq : Hid (r = bt) := by
            show r = bt
            rcases Nat.lt_trichotomy r bt with h | h | h
            · have a1 := P2.out r l1 h
              have a2 := l3 bt hb1 hbi
              omega
            · exact h
            · have a1 := l5 bt hb1 h
              have a2 := P1.out r l1 l2
              omega
          clear hs3 hs4 l3 l4 l5 hr hb3'
          have HR3 : Hid (w3.rowIs w.heap.size 3 k (fun t => .int .i64 (f t))) := HRC.out.of_block (hb3.block _ HRC.out.lt)
          have HK3 : Hid (w3.rowIs wk.heap.size 3 k (fun t => .int .i64 (f t))) := HRK.out.of_block (hb3.block _ HRK.out.lt)
          go_wp2
          go_loopw [19] (fun tv wq => ∃ t : Nat, t ≤ k ∧ tv = .int .i64 t ∧ ∃ x, wq = w3.drewN x) (fun tv _ => k - (intOf tv).toNat)
          case atStart => exact ⟨0, Nat.zero_le _, rfl, 0, rfl⟩
          case round =>
            obtain ⟨t, ht, rfl, x2, rfl⟩ := hrel
            by_cases hlt3 : t < k
            · have e1 := HR3.out.cell (i := t) hlt3
              have e2 := HK3.out.cell (i := t) hlt3
              have b5 : (t : Int) < (k : Int) := by omega
              have b7 : (0 : Int) ≤ (t : Int) := by omega
              go_wp2
              go_quiet (fail)
              go_wp2
              go_roundw
              case rel => exact ⟨t + 1, by omega, by go_num, _, rfl⟩
              case measure => simp [intOf]; omega
            · have hrb : ((r : Int) == (bt : Int)) = true := by rw [heq.out]; simp
              go_wp2
              go_ret
              exact ⟨by simp, below_drewN ((hbel.trans (hb2.mono (by have := hbel.size; omega))).trans (hb3.mono (by have := hbel.size; have := hb2.size; omega))) _⟩
end Go.Proofs.Ybulkclpi
