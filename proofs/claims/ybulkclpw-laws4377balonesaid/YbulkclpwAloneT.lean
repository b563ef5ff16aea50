import Derived.Test.YbulkclpwAlone
namespace Go.Proofs.Ybulkclpw
open Go.RowKit
open Go.ChangeMaps (setBlock)
set_option linter.unusedVariables false

set_option maxRecDepth 100000 in
set_option maxHeartbeats 1000000 in
theorem alone_map_t (b off n cap : Nat) (a : Option Addr) (Sx : Nat → ByteArray) (w : World) (hn : n ≤ 1024) (hn0 : 0 < n) (ha : 0 < n → a = some ⟨b, off, none⟩) (hb : 0 < n → b < w.heap.size)
    (hS : ∀ j, j < n → w.cell? ⟨b, off + j, none⟩ = some (.string (Sx j))) :
    Calls Yba.prog 3 #[.slice a n cap, .bool true] w fun e w' => e = .returned (.bool true) ∧ Below w.heap.size w w' := by
  have q := zero56
  have q3 := z56_size
  have q4 := z56_22
  have hmm := @run_makeMap Yba.prog
  have hmk := run_make_row' (P := Yba.prog) 57 48 (.pointer none) 8 Yba.underlying57 info48 rfl .i64 .i64 n (by omega) (by omega)
  have h1 : ¬ (1024 : Int) < (n : Int) := by omega
  have h2 : ((n : Int) == 0) = false := by simp; omega
  have h3 : ¬ (n : Int) = 0 := by omega
  have HS : Hid (∀ j, j < n → w.cell? ⟨b, off + j, none⟩ = some (.string (Sx j))) := hS
  have HA : Hid ((0 < n → a = some ⟨b, off, none⟩) ∧ (0 < n → b < w.heap.size)) := ⟨ha, hb⟩
  clear hS ha hb
  go_enter Yba.func3, Yba.ntmps3
  go_wp2
  go_loopw [39] (fun iv wr => ∃ i : Nat, i ≤ n ∧ iv = .int .i64 i ∧ RI w Sx n i wr) (fun iv _ => n - (intOf iv).toNat)
  case atStart => exact ⟨0, Nat.zero_le _, rfl, RI.start w Sx n⟩
  case round =>
    obtain ⟨i, hi, rfl, hR⟩ := hrel
    have HR : Hid (RI w Sx n i wr) := hR
    by_cases hlt : i < n
    · obtain rfl := HA.out.1 (by omega)
      have hc : wr.cell? ⟨b, off + i, none⟩ = some (.string (Sx i)) := (hR.below.cell (by exact HA.out.2 (by omega))).trans (HS.out i hlt)
      have E0 : Hid (wr.heap.size = w.heap.size + 3 + i) := hR.size
      have l1 : w.heap.size < wr.heap.size := by rw [hR.size]; omega
      have l2 : w.heap.size + 1 + 1 < wr.heap.size := by rw [hR.size]; omega
      have e1 := hR.run
      have e2 : wr.cell? ⟨w.heap.size + 1 + 1, i, none⟩ = some (.pointer none) := (hR.row.cell (i := i) hlt).trans (by simp)
      have e3 : wr.frozen? ⟨w.heap.size + 1 + 1, i, none⟩ = false := hR.row.frozen i
      have hln : (i : Int) < (n : Int) := by omega
      clear hR
      go_wp2_with (at_mapUpdate; refine wpList_store_ptr _ rfl _ _ _ rfl (w.heap.size + 1) (w.heap.size + 3) i _ rfl rfl rfl (by rw [E0.out]; rfl) (HR.out.mid_map _) (HR.out.mid_laid _) ?_)
      go_roundw
      case rel => exact ⟨i + 1, by omega, by go_num, HR.out.next _ rfl⟩
      case measure => simp [intOf]; omega
    · obtain rfl : i = n := by omega
      have qe := eql_map
      by_cases h11 : i = 1
      · subst h11
        obtain rfl := HA.out.1 (by omega)
        have hm1 : wr.heap[w.heap.size + 1]? = some (.map #[ent (w.heap.size + 3) 0] 1) := hR.map
        go_wp2_with (go_at_call 5; go_must (refine (running_one w.heap.size (w.heap.size + 1) (w.heap.size + 3) (Sx 0) _ hR.run hm1 (by exact hR.rj.name (j := 0) (by omega)) (by rw [hR.size]; omega)).mono ?_; rintro e w1 ⟨rfl, hb1⟩; have hR1 : RJ w Sx 1 w1 := hR.rj.grow hb1; have c0 : w1.cell? ⟨b, off, none⟩ = some (.string (Sx 0)) := (hR1.below.cell (by exact HA.out.2 (by omega))).trans (HS.out 0 (by omega)); have c1 := hR1.run; have c2 := hR1.len))
        clear hm1
        go_loopw [87] (fun jv wq => ∃ j : Nat, j ≤ 1 ∧ jv = .int .i64 j ∧ RJ w Sx 1 wq) (fun jv _ => 1 - (intOf jv).toNat)
        case atStart => exact ⟨0, Nat.zero_le _, rfl, hR1⟩
        case round =>
          obtain ⟨j, hj, rfl, hJ⟩ := hrel
          by_cases hlt2 : j < 1
          · have hbw := HA.out.2 (by omega)
            have r1 : wr.cell? ⟨w.heap.size + 1 + 1, j, none⟩ = some (.pointer (some ⟨w.heap.size + 3 + j, 0, none⟩)) := hJ.row.cell (i := j) hlt2
            have r2 := hJ.run
            have r3 := hJ.name hlt2
            have r4 : wr.cell? ⟨b, off + j, none⟩ = some (.string (Sx j)) := (hJ.below.cell (by exact hbw)).trans (HS.out j hlt2)
            have l1 := hJ.lt
            have l3 : w.heap.size + 3 + j < wr.heap.size := by
              obtain ⟨cs, h1, _⟩ := hJ.tests j hlt2
              exact lt_of_block h1
            have l4 : b < wr.heap.size := Nat.lt_trans hbw l1
            have hjn : (j : Int) < (1 : Int) := by omega
            have HJ : Hid (RJ w Sx 1 wr) := hJ
            clear hJ
            go_wp2_with (at_lookup; refine wpList_look_ptr _ rfl _ _ rfl (w.heap.size + 1) (w.heap.size + 3) 1 j _ rfl rfl rfl hlt2 HJ.out.map HJ.out.laid ?_)
            go_quiet (fail)
            go_wp2
            go_roundw
            case rel => exact ⟨j + 1, by omega, by go_num, HJ.out.grow (below_drewN ((Below.refl _ _).alloc (Nat.le_refl _) _) _)⟩
            case measure => simp [intOf]; omega
          · obtain rfl : j = 1 := by omega
            go_wp2
            go_ret
            exact ⟨rfl, hJ.below⟩
      · have hne : ¬ (i : Int) = 1 := by omega
        have hb1 : ((i : Int) == 1) = false := by simp; omega
        go_wp2_with (go_at_call 5; go_must (refine (running_other w.heap.size (w.heap.size + 1) i _ _ hR.run hR.map (by simp [ents]; omega)).mono ?_; rintro e w1 ⟨rfl, hw⟩; obtain rfl := hw.symm; have hR1 : RJ w Sx i wr := hR.rj; have c1 := hR1.run; have c2 := hR1.len))
        obtain ⟨wo, rfl⟩ : ∃ wo : World, wo = wr := ⟨_, rfl⟩
        go_loopw [87] (fun jv wq => ∃ j : Nat, j ≤ i ∧ jv = .int .i64 j ∧ RJ w Sx i wq) (fun jv _ => i - (intOf jv).toNat)
        case atStart => exact ⟨0, Nat.zero_le _, rfl, hR1⟩
        case round =>
          obtain ⟨j, hj, rfl, hJ⟩ := hrel
          by_cases hlt2 : j < i
          · obtain rfl := HA.out.1 (by omega)
            have hbw := HA.out.2 (by omega)
            have r1 : wr.cell? ⟨w.heap.size + 1 + 1, j, none⟩ = some (.pointer (some ⟨w.heap.size + 3 + j, 0, none⟩)) := hJ.row.cell (i := j) hlt2
            have r2 := hJ.run
            have r3 := hJ.name hlt2
            have r4 : wr.cell? ⟨b, off + j, none⟩ = some (.string (Sx j)) := (hJ.below.cell (by exact hbw)).trans (HS.out j hlt2)
            have l1 := hJ.lt
            have l3 : w.heap.size + 3 + j < wr.heap.size := by
              obtain ⟨cs, h1, _⟩ := hJ.tests j hlt2
              exact lt_of_block h1
            have l4 : b < wr.heap.size := Nat.lt_trans hbw l1
            have hjn : (j : Int) < (i : Int) := by omega
            have HJ : Hid (RJ w Sx i wr) := hJ
            clear hJ
            go_wp2_with (at_lookup; refine wpList_look_ptr _ rfl _ _ rfl (w.heap.size + 1) (w.heap.size + 3) i j _ rfl rfl rfl hlt2 HJ.out.map HJ.out.laid ?_)
            go_quiet (fail)
            go_wp2
            go_roundw
            case rel => exact ⟨j + 1, by omega, by go_num, HJ.out.grow (below_drewN ((Below.refl _ _).alloc (Nat.le_refl _) _) _)⟩
            case measure => simp [intOf]; omega
          · obtain rfl : j = i := by omega
            go_wp2
            go_ret
            exact ⟨rfl, hJ.below⟩

end Go.Proofs.Ybulkclpw
