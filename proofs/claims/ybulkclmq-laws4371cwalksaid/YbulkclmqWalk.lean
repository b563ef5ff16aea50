import Derived.Test.YbulkclmqRows
import Derived.Test.YbulkclmqIndex
import Derived.Test.YbulkclmqNext
import Derived.WalkKit
import Derived.WalkSmall
import Derived.WalkLawsBesides
import Derived.Deep.QuietTactic
import Derived.BigQuiet
import Derived.Deep.DeepMust
namespace Go.Proofs.Ybulkclmq
open Go.RowKit
set_option linter.unusedVariables false

theorem walk_edge (N : Nat) (a1 : Int) (w : World) (hN : 1024 < N) (hN2 : N ≤ 65535) :
    Calls Yba.prog 3 #[.int .u16 N, .int .u8 a1] w fun e w' => e = .returned (.bool true) ∧ Below w.heap.size w w' := by
  have h1 : (1024 : Int) < (N : Int) := by omega
  go_enter Yba.func3, Yba.ntmps3
  go_wp2
  go_ret
  exact ⟨rfl, Below.refl _ _⟩

set_option maxHeartbeats 1000000 in
theorem walk_main (N A : Nat) (w : World) (hN : N ≤ 1024) (hA : A ≤ 255) :
    Calls Yba.prog 3 #[.int .u16 N, .int .u8 A] w fun e w' => e = .returned (.bool true) ∧ Below w.heap.size w w' := by
  obtain ⟨f, hf1, hf5, hfe⟩ : ∃ f : Nat, 1 ≤ f ∧ f ≤ 5 ∧ (A : Int) % 5 + 1 = f := ⟨A % 5 + 1, by omega, by omega, by omega⟩
  have h1 : ¬ (1024 : Int) < (N : Int) := by omega
  go_enter Yba.func3, Yba.ntmps3
  go_wp2
  go_loopw [8] (fun i wr => ∃ k : Nat, k ≤ N ∧ i = .int .i64 k ∧ PSt w.heap.size f k wr ∧ Below w.heap.size w wr) (fun i _ => N - (intOf i).toNat)
  case atStart =>
    exact ⟨0, Nat.zero_le _, rfl, .inl ⟨rfl, heap_alloc_new _ _⟩, (Below.refl _ _).alloc (Nat.le_refl _) _⟩
  case round =>
    obtain ⟨k, hk, rfl, hP, hb⟩ := hrel
    have HP : Hid _ := hP
    by_cases hlt : k < N
    · clear hP
      go_wp2_with (go_at_call 5; go_must (refine (push_st w.heap.size f k _ _ _ _ rfl hf1 hf5 (by omega) HP.out).mono ?_; rintro e w1 ⟨rfl, hP1, hb1⟩))
      go_roundw
      case rel => exact ⟨k + 1, by omega, by go_num, hP1, hb.trans hb1⟩
      case measure => simp [intOf]; omega
    · obtain rfl : k = N := by omega
      clear hP
      have hxl : w.heap.size < wr.heap.size := by
        rcases HP.out with ⟨_, h⟩ | ⟨_, nb, n, vE, vB, sE, sV, es, bs, xE, xV, h, _⟩
        · exact two_lt h
        · exact two_lt h.blk
      have H00 : Hid (bAt k f 0 = 0 ∧ rAt k f 0 = 0) := at_zero k f hf1 hf5
      go_wp2
      obtain ⟨wo, rfl⟩ : ∃ wo : World, wo = wr := ⟨_, rfl⟩
      go_loopw [10] (fun i wq => ∃ j : Nat, j ≤ k ∧ i = .int .i64 j ∧ wq.heap[wo.heap.size]? = some (.cells #[.int .i64 (bAt k f j), .int .i64 (rAt k f j)] 30 (0, 0)) ∧ Below wo.heap.size wo wq) (fun i _ => k - (intOf i).toNat)
      case atStart =>
        refine ⟨0, Nat.zero_le _, rfl, ?_, (Below.refl _ _).alloc (Nat.le_refl _) _⟩
        rw [H00.out.1, H00.out.2]
        exact heap_alloc_new _ _
      case round =>
        obtain ⟨j, hj, rfl, hat, hbq⟩ := hrel
        have hal := two_lt hat
        by_cases hlt : j < k
        · obtain ⟨nb, n, hn1, hnf, hkc, g, cap, hP⟩ : ∃ nb n, 1 ≤ n ∧ n ≤ f ∧ k = (nb - 1) * f + n ∧ ∃ g cap, ∃ vE sE sV es bs xE xV, PI w.heap.size f nb n vE (.slice (some ⟨g, 0, none⟩) nb cap) sE sV es bs xE xV wr := by
            rcases HP.out with ⟨h0, _⟩ | ⟨_, nb, n, vE, vB, sE, sV, es, bs, xE, xV, h, h2, h3, h4⟩
            · omega
            · obtain ⟨g, cap, rfl⟩ := h.formB
              exact ⟨nb, n, h3, h4, h2, g, cap, vE, sE, sV, es, bs, xE, xV, h.below hbq⟩
          obtain ⟨vE, sE, sV, es, bs, xE, xV, hP⟩ := hP
          obtain ⟨hdiv, hin, hout⟩ := at_next k f j nb n hf1 hf5 hP.nb1 hkc hn1 hnf hlt
          obtain ⟨aa, cc, hcb⟩ := hP.lenAt hn1 hdiv
          generalize hL : (if j / f + 1 < nb then f else n) = L at hin hout hcb
          have hLb : L ≤ 5 := by rw [← hL]; split <;> omega
          have eb : Hid (bAt k f j = j / f ∧ rAt k f j = j % f) := ⟨by unfold bAt; rw [if_pos hlt], by unfold rAt; rw [if_pos hlt]⟩
          have hat2 : wr.heap[wo.heap.size]? = some (.cells #[.int .i64 ((j : Int) / (f : Int)), .int .i64 ((j : Int) % (f : Int))] 30 (0, 0)) := by
            rw [hat, eb.out.1, eb.out.2, Int.natCast_ediv, Int.natCast_emod]
          have a0 := two_cell0 hat2
          have a1 := two_cell1 hat2
          have af0 : wr.frozen? ⟨wo.heap.size, 0, none⟩ = false := two_free hat2
          have af1 : wr.frozen? ⟨wo.heap.size, 1, none⟩ = false := two_free hat2
          have x1 := two_cell1 hP.blk
          have xl := two_lt hP.blk
          have gl := (br_lt hP.oB g rfl).2
          have hnb2 : nb ≤ 1024 := by
            have : nb - 1 ≤ (nb - 1) * f := Nat.le_mul_of_pos_right _ (by omega)
            omega
          have hdI : (j : Int) / (f : Int) < (nb : Int) := by rw [← Int.natCast_ediv]; omega
          have hd0 : (0 : Int) ≤ (j : Int) / (f : Int) := Int.ediv_nonneg (by omega) (by omega)
          have hf0 : ((f : Int) == 0) = false := by simp; omega
          have hmod : j % f < f := Nat.mod_lt _ (by omega)
          have HAT : Hid _ := hat2
          have HCB : Hid _ := hcb
          clear hat hat2 hP hL hkc hcb
          have Hin : Hid _ := hin
          have Hout : Hid _ := hout
          clear hin hout
          go_wp2
          go_quiet (fail)
          go_wp2
          go_quiet (fail)
          go_wp2_with fail
          by_cases ht : j % f + 1 < L
          ·
            refine (nextI_in _ _ w.heap.size g nb cap (j / f) (j % f) L cc aa _ (Int.natCast_ediv j f).symm (Int.natCast_emod j f).symm (by exact xl) (by exact gl) (by exact x1) (by exact HCB.out) hdiv (by omega) (by omega) (by omega) (by omega) ht).mono ?_
            rintro e w1 ⟨rfl, hb1'⟩
            have hb1 : Below wr.heap.size wr w1 := ⟨hb1'.os, hb1'.tape, hb1'.output, hb1'.size, hb1'.block⟩
            have hat1 : Hid _ := hp_below hb1 HAT.out
            have b0 := two_cell0 hat1.out
            have b1 := two_cell1 hat1.out
            have bf0 : w1.frozen? ⟨wo.heap.size, 0, none⟩ = false := two_free hat1.out
            have bf1 : w1.frozen? ⟨wo.heap.size, 1, none⟩ = false := two_free hat1.out
            clear hb1'
            go_wp2
            go_roundw
            case rel =>
              refine ⟨j + 1, by omega, by go_num, ?_, ((hbq.trans (hb1.mono (Nat.le_of_lt hal))).setCell (Nat.le_refl _) _).setCell (Nat.le_refl _) _⟩
              rw [(Hin.out ht).1, (Hin.out ht).2]
              have e2 := two_set1 (two_set0 hat1.out (.int .i64 ((j : Int) / (f : Int)))) (.int .i64 ((j : Int) % (f : Int) + 1))
              simpa using e2
            case measure => simp [intOf]; omega
          ·
            refine (nextI_out _ _ w.heap.size g nb cap (j / f) (j % f) L cc aa _ (Int.natCast_ediv j f).symm (Int.natCast_emod j f).symm (by exact xl) (by exact gl) (by exact x1) (by exact HCB.out) hdiv (by omega) (by omega) (by omega) (by omega) ht).mono ?_
            rintro e w1 ⟨rfl, hb1'⟩
            have hb1 : Below wr.heap.size wr w1 := ⟨hb1'.os, hb1'.tape, hb1'.output, hb1'.size, hb1'.block⟩
            have hat1 : Hid _ := hp_below hb1 HAT.out
            have b0 := two_cell0 hat1.out
            have b1 := two_cell1 hat1.out
            have bf0 : w1.frozen? ⟨wo.heap.size, 0, none⟩ = false := two_free hat1.out
            have bf1 : w1.frozen? ⟨wo.heap.size, 1, none⟩ = false := two_free hat1.out
            clear hb1'
            go_wp2
            go_roundw
            case rel =>
              refine ⟨j + 1, by omega, by go_num, ?_, ((hbq.trans (hb1.mono (Nat.le_of_lt hal))).setCell (Nat.le_refl _) _).setCell (Nat.le_refl _) _⟩
              rw [(Hout.out ht).1, (Hout.out ht).2]
              have e2 := two_set1 (two_set0 hat1.out (.int .i64 ((j : Int) / (f : Int) + 1))) (.int .i64 (0))
              simpa using e2
            case measure => simp [intOf]; omega
        · obtain rfl : j = k := by omega
          have hat2 : wr.heap[wo.heap.size]? = some (.cells #[.int .i64 (((j : Int) + (f : Int) - 1) / (f : Int)), .int .i64 0] 30 (0, 0)) := by
            rw [hat, at_end j f hf1]
          have a0 := two_cell0 hat2
          have a1 := two_cell1 hat2
          have hf0 : ((f : Int) == 0) = false := by simp; omega
          clear hat hat2
          go_wp2
          go_quiet (fail)
          go_wp2
          go_ret
          exact ⟨by simp, below_drewN (hb.trans (hbq.mono (Nat.le_of_lt hxl))) _⟩
end Go.Proofs.Ybulkclmq
