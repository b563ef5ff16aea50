import Derived.Test.YbulkclpwAlone1
namespace Go.Proofs.Ybulkclpw
open Go.RowKit
open Go.ChangeMaps (setBlock)
set_option linter.unusedVariables false

theorem below_drewN {B : Nat} {a w : World} (h : Below B a w) (k : Nat) : Below B a (w.drewN k) := ⟨h.os, h.tape, h.output, h.size, h.block⟩

theorem RI.start (w : World) (Sx : Nat → ByteArray) (n : Nat) :
    RI w Sx n 0 (((w.alloc (.cells (z56.setIfInBounds 22 (.map (some (w.heap.size + 1)))) 56)).alloc (.map #[] 0)).alloc (.cells (madeCells #[Value.pointer none] n) 48)) := by
  have s1 : (w.alloc (.cells (z56.setIfInBounds 22 (.map (some (w.heap.size + 1)))) 56)).heap.size = w.heap.size + 1 := by show (Array.push _ _).size = _; simp
  have s2 : ((w.alloc (.cells (z56.setIfInBounds 22 (.map (some (w.heap.size + 1)))) 56)).alloc (.map #[] 0)).heap.size = w.heap.size + 2 := by show (Array.push _ _).size = _; rw [Array.size_push, s1]
  have b1 : Below w.heap.size w (w.alloc (.cells (z56.setIfInBounds 22 (.map (some (w.heap.size + 1)))) 56)) := (Below.refl _ _).alloc (Nat.le_refl _) _
  refine ⟨?_, ?_, ?_, ?_, fun j hj => by omega, ?_⟩
  · show (Array.push _ _).size = _
    rw [Array.size_push, s2]
  · rw [World.cell?_alloc_past _ _ _ (by rw [s2]; omega), World.cell?_alloc_past _ _ _ (by rw [s1]; omega), World.cell?_alloc_at _ _ _ _ rfl]
    simp [z56_size]
  · rw [Below.heap_alloc _ _ _ (by rw [s2]; omega)]
    have := heap_alloc_new (w.alloc (.cells (z56.setIfInBounds 22 (.map (some (w.heap.size + 1)))) 56)) (.map #[] 0)
    rw [s1] at this
    simpa [ents] using this
  · refine ⟨madeCells #[Value.pointer none] n, ?_, ?_, ?_⟩
    · have := heap_alloc_new ((w.alloc (.cells (z56.setIfInBounds 22 (.map (some (w.heap.size + 1)))) 56)).alloc (.map #[] 0)) (.cells (madeCells #[Value.pointer none] n) 48)
      rw [s2] at this
      exact this
    · simp [size_madeCells]
    · intro i hi
      simp [madeCells, hi, Nat.mod_one]
  · exact (b1.alloc (by rw [s1]; omega) _).alloc (by rw [s2]; omega) _

/-- The world in the second loop. -/
structure RJ (w : World) (Sx : Nat → ByteArray) (n : Nat) (wr : World) : Prop where
  run : wr.cell? ⟨w.heap.size, 22, none⟩ = some (.map (some (w.heap.size + 1)))
  map : wr.heap[w.heap.size + 1]? = some (.map (ents (w.heap.size + 3) n).toArray n)
  row : wr.rowIs (w.heap.size + 2) 48 n (fun j => ptr (w.heap.size + 3) j)
  tests : ∀ j, j < n → ∃ cs, wr.heap[w.heap.size + 3 + j]? = some (.cells cs 66 (0, 0)) ∧ cs[2]? = some (.string (Sx j))
  below : Below w.heap.size w wr
  lt : w.heap.size < wr.heap.size

theorem RI.rj {w Sx n wr} (h : RI w Sx n n wr) : RJ w Sx n wr :=
  ⟨h.run, h.map, h.row.congr fun t ht => by simp [ht], h.tests, h.below, by rw [h.size]; omega⟩

theorem lt_of_block {w : World} {k : Nat} {o : Obj} (h : w.heap[k]? = some o) : k < w.heap.size := (Array.getElem?_eq_some_iff.1 h).1

theorem RJ.grow {w Sx n w1 w2} (h : RJ w Sx n w1) (hb : Below w1.heap.size w1 w2) : RJ w Sx n w2 where
  run := (hb.cell (by exact h.lt)).trans h.run
  map := (hb.block _ (lt_of_block h.map)).trans h.map
  row := h.row.of_block (hb.block _ h.row.lt)
  tests := fun j hj => by
    obtain ⟨cs, h1, h2⟩ := h.tests j hj
    exact ⟨cs, (hb.block _ (lt_of_block h1)).trans h1, h2⟩
  below := h.below.trans (hb.mono (Nat.le_of_lt h.lt))
  lt := Nat.lt_of_lt_of_le h.lt hb.size

theorem RJ.laid {w Sx n wr} (h : RJ w Sx n wr) : Laid wr (w.heap.size + 3) n := fun j hj => by
  obtain ⟨cs, h1, _⟩ := h.tests j hj
  exact ⟨cs, h1⟩

theorem RJ.name {w Sx n wr} (h : RJ w Sx n wr) {j : Nat} (hj : j < n) : wr.cell? ⟨w.heap.size + 3 + j, 2, none⟩ = some (.string (Sx j)) := by
  obtain ⟨cs, h1, h2⟩ := h.tests j hj
  simp [World.cell?, h1, h2]

theorem RJ.len {w Sx n wr} (h : RJ w Sx n wr) : (Builtin.len_ #[47] 3 #[.map (some (w.heap.size + 1))]).run Yba.prog wr = .ok (.int .i64 n) wr := by
  rw [len_map wr _ _ _ h.map]
  simp [ents]

theorem eql_map (w : World) (r : Option Nat) : (binOp .eql 47 (.map r) (.map none)).run Yba.prog w = .ok (.bool r.isNone) w := run_eql_map_nil w _ _ _ r Yba.underlying47

set_option maxRecDepth 100000 in
set_option maxHeartbeats 1000000 in
theorem alone_map_f (b off n cap : Nat) (a : Option Addr) (Sx : Nat → ByteArray) (w : World) (hn : n ≤ 1024) (ha : 0 < n → a = some ⟨b, off, none⟩) (hb : 0 < n → b < w.heap.size)
    (hS : ∀ j, j < n → w.cell? ⟨b, off + j, none⟩ = some (.string (Sx j))) :
    Calls Yba.prog 3 #[.slice a n cap, .bool false] w fun e w' => e = .returned (.bool true) ∧ Below w.heap.size w w' := by
  have q := zero56
  have q3 := z56_size
  have q4 := z56_22
  have hmm := @run_makeMap Yba.prog
  have hmk := run_make_row' (P := Yba.prog) 57 48 (.pointer none) 8 Yba.underlying57 info48 rfl .i64 .i64 n (by omega) (by omega)
  have h1 : ¬ (1024 : Int) < (n : Int) := by omega
  have HS : Hid (∀ j, j < n → w.cell? ⟨b, off + j, none⟩ = some (.string (Sx j))) := hS
  have HA : Hid ((0 < n → a = some ⟨b, off, none⟩) ∧ (0 < n → b < w.heap.size)) := ⟨ha, hb⟩
  clear hS ha hb
  go_enter Yba.func3, Yba.ntmps3
  go_wp2
  go_loopw [39] (fun iv wr => ∃ i : Nat, i ≤ n ∧ iv = .int .i64 i ∧ RI w Sx n i wr) (fun iv _ => n - (intOf iv).toNat)
  case atStart => exact ⟨0, Nat.zero_le _, rfl, RI.start w Sx n⟩
  case round =>
    obtain ⟨i, hi, rfl, hR⟩ := hrel
    have HR : Hid (RI w Sx n i wr) := hR
    by_cases hlt : i < n
    · obtain rfl := HA.out.1 (by omega)
      have hc : wr.cell? ⟨b, off + i, none⟩ = some (.string (Sx i)) := (hR.below.cell (by exact HA.out.2 (by omega))).trans (HS.out i hlt)
      have E0 : Hid (wr.heap.size = w.heap.size + 3 + i) := hR.size
      have l1 : w.heap.size < wr.heap.size := by rw [hR.size]; omega
      have l2 : w.heap.size + 1 + 1 < wr.heap.size := by rw [hR.size]; omega
      have e1 := hR.run
      have e2 : wr.cell? ⟨w.heap.size + 1 + 1, i, none⟩ = some (.pointer none) := (hR.row.cell (i := i) hlt).trans (by simp)
      have e3 : wr.frozen? ⟨w.heap.size + 1 + 1, i, none⟩ = false := hR.row.frozen i
      have hln : (i : Int) < (n : Int) := by omega
      clear hR
      go_wp2_with (at_mapUpdate; refine wpList_store_ptr _ rfl _ _ _ rfl (w.heap.size + 1) (w.heap.size + 3) i _ rfl rfl rfl (by rw [E0.out]; rfl) (HR.out.mid_map _) (HR.out.mid_laid _) ?_)
      go_roundw
      case rel => exact ⟨i + 1, by omega, by go_num, HR.out.next _ rfl⟩
      case measure => simp [intOf]; omega
    · obtain rfl : i = n := by omega
      have qe := eql_map
      by_cases h11 : i = 1
      · subst h11
        obtain rfl := HA.out.1 (by omega)
        have hm1 : wr.heap[w.heap.size + 1]? = some (.map #[ent (w.heap.size + 3) 0] 1) := hR.map
        go_wp2_with (go_at_call 5; go_must (refine (running_one w.heap.size (w.heap.size + 1) (w.heap.size + 3) (Sx 0) _ hR.run hm1 (by exact hR.rj.name (j := 0) (by omega)) (by rw [hR.size]; omega)).mono ?_; rintro e w1 ⟨rfl, hb1⟩; have hR1 : RJ w Sx 1 w1 := hR.rj.grow hb1; have c0 : w1.cell? ⟨b, off, none⟩ = some (.string (Sx 0)) := (hR1.below.cell (by exact HA.out.2 (by omega))).trans (HS.out 0 (by omega)); have c1 := hR1.run; have c2 := hR1.len))
        clear hm1
        go_loopw [87] (fun jv wq => ∃ j : Nat, j ≤ 1 ∧ jv = .int .i64 j ∧ RJ w Sx 1 wq) (fun jv _ => 1 - (intOf jv).toNat)
        case atStart => exact ⟨0, Nat.zero_le _, rfl, hR1⟩
        case round =>
          obtain ⟨j, hj, rfl, hJ⟩ := hrel
          by_cases hlt2 : j < 1
          · have hbw := HA.out.2 (by omega)
            have r1 : wr.cell? ⟨w.heap.size + 1 + 1, j, none⟩ = some (.pointer (some ⟨w.heap.size + 3 + j, 0, none⟩)) := hJ.row.cell (i := j) hlt2
            have r2 := hJ.run
            have r3 := hJ.name hlt2
            have r4 : wr.cell? ⟨b, off + j, none⟩ = some (.string (Sx j)) := (hJ.below.cell (by exact hbw)).trans (HS.out j hlt2)
            have l1 := hJ.lt
            have l3 : w.heap.size + 3 + j < wr.heap.size := by
              obtain ⟨cs, h1, _⟩ := hJ.tests j hlt2
              exact lt_of_block h1
            have l4 : b < wr.heap.size := Nat.lt_trans hbw l1
            have hjn : (j : Int) < (1 : Int) := by omega
            have HJ : Hid (RJ w Sx 1 wr) := hJ
            clear hJ
            go_wp2_with (at_lookup; refine wpList_look_ptr _ rfl _ _ rfl (w.heap.size + 1) (w.heap.size + 3) 1 j _ rfl rfl rfl hlt2 HJ.out.map HJ.out.laid ?_)
            go_quiet (fail)
            go_wp2
            go_roundw
            case rel => exact ⟨j + 1, by omega, by go_num, HJ.out.grow (below_drewN ((Below.refl _ _).alloc (Nat.le_refl _) _) _)⟩
            case measure => simp [intOf]; omega
          · obtain rfl : j = 1 := by omega
            go_wp2
            go_ret
            exact ⟨rfl, hJ.below⟩
      · have hne : ¬ (i : Int) = 1 := by omega
        have hb1 : ((i : Int) == 1) = false := by simp; omega
        go_wp2_with (go_at_call 5; go_must (refine (running_other w.heap.size (w.heap.size + 1) i _ _ hR.run hR.map (by simp [ents]; omega)).mono ?_; rintro e w1 ⟨rfl, hw⟩; obtain rfl := hw.symm; have hR1 : RJ w Sx i wr := hR.rj; have c1 := hR1.run; have c2 := hR1.len))
        obtain ⟨wo, rfl⟩ : ∃ wo : World, wo = wr := ⟨_, rfl⟩
        go_loopw [87] (fun jv wq => ∃ j : Nat, j ≤ i ∧ jv = .int .i64 j ∧ RJ w Sx i wq) (fun jv _ => i - (intOf jv).toNat)
        case atStart => exact ⟨0, Nat.zero_le _, rfl, hR1⟩
        case round =>
          obtain ⟨j, hj, rfl, hJ⟩ := hrel
          by_cases hlt2 : j < i
          · obtain rfl := HA.out.1 (by omega)
            have hbw := HA.out.2 (by omega)
            have r1 : wr.cell? ⟨w.heap.size + 1 + 1, j, none⟩ = some (.pointer (some ⟨w.heap.size + 3 + j, 0, none⟩)) := hJ.row.cell (i := j) hlt2
            have r2 := hJ.run
            have r3 := hJ.name hlt2
            have r4 : wr.cell? ⟨b, off + j, none⟩ = some (.string (Sx j)) := (hJ.below.cell (by exact hbw)).trans (HS.out j hlt2)
            have l1 := hJ.lt
            have l3 : w.heap.size + 3 + j < wr.heap.size := by
              obtain ⟨cs, h1, _⟩ := hJ.tests j hlt2
              exact lt_of_block h1
            have l4 : b < wr.heap.size := Nat.lt_trans hbw l1
            have hjn : (j : Int) < (i : Int) := by omega
            have HJ : Hid (RJ w Sx i wr) := hJ
            clear hJ
            go_wp2_with (at_lookup; refine wpList_look_ptr _ rfl _ _ rfl (w.heap.size + 1) (w.heap.size + 3) i j _ rfl rfl rfl hlt2 HJ.out.map HJ.out.laid ?_)
            go_quiet (fail)
            go_wp2
            go_roundw
            case rel => exact ⟨j + 1, by omega, by go_num, HJ.out.grow (below_drewN ((Below.refl _ _).alloc (Nat.le_refl _) _) _)⟩
            case measure => simp [intOf]; omega
          · obtain rfl : j = i := by omega
            go_wp2
            go_ret
            exact ⟨rfl, hJ.below⟩
end Go.Proofs.Ybulkclpw
