import Derived.Test.YbulkclpwCom
import Derived.WalkKit
import Derived.WalkSmall
import Derived.WalkLawsBesides
import Derived.Deep.QuietTactic
import Derived.BigQuiet
import Derived.Deep.DeepMust
namespace Go.Proofs.Ybulkclpw
open Go.MuLone Go.RowKit
set_option linter.unusedVariables false

theorem Com.new (nm : ByteArray) (fl : Bool) (s : Int) (r : Option Nat) (w : World) :
    Com w.heap.size nm fl s r (w.alloc (.cells #[.pointer none, .pointer none, .string nm, .int .i64 0, .pointer none, .chan none, .int .u64 0, .int .i64 0, .pointer none, .int .i64 0, .int .i32 0, .int .u32 0, .bool fl, .bool false, .bool false, .bool false, .bool false, .bool false, .bool false, .bool false, .bool false, .bool false, .bool false, .int .u8 0, .int .i32 0, .int .i32 s, .chan none, .slice none 0 0, .slice none 0 0, .chan r, .map none, .pointer none, .pointer none, .pointer none] 66)) where
  lt := by show w.heap.size < (w.heap.push _).size; simp
  c2 := World.cell?_alloc_at _ _ _ _ rfl
  c10 := World.cell?_alloc_at _ _ _ _ rfl
  c12 := World.cell?_alloc_at _ _ _ _ rfl
  c25 := World.cell?_alloc_at _ _ _ _ rfl
  c29 := World.cell?_alloc_at _ _ _ _ rfl
  z10 := World.frozen?_alloc_at _ _ _ _ rfl
  z25 := World.frozen?_alloc_at _ _ _ _ rfl
  z29 := World.frozen?_alloc_at _ _ _ _ rfl

theorem wrap_next (s : Int) (i : Nat) : wrap32 (wrap32 (s + (i : Int)) + 1) = wrap32 (s + ((i + 1 : Nat) : Int)) := by
  unfold wrap32
  omega

theorem wrap_zero (s : Int) (hs : -2147483648 ≤ s ∧ s ≤ 2147483647) : s = wrap32 (s + ((0 : Nat) : Int)) := by
  unfold wrap32
  omega

set_option maxRecDepth 100000 in
set_option maxHeartbeats 1000000 in
theorem counts_pre (s : Int) (K : Nat) (fl : Bool) (nm : ByteArray) (w : World) (hK : K ≤ 255) (hs : -2147483648 ≤ s ∧ s ≤ 2147483647) :
    Calls Yba.prog 4 #[.int .i32 s, .int .u8 K, .bool true, .bool fl, .string nm] w fun e w' => e = .returned (.bool true) ∧ Below w.heap.size w w' := by
  have q := addPar.eql_chan
  have q1 := addPar.neq_chan
  have q2 := addPar.make_chan
  have HS : Hid (-2147483648 ≤ s ∧ s ≤ 2147483647) := hs
  clear hs
  go_enter Yba.func4, Yba.ntmps4
  go_wp2
  go_loopw [13, 14] (fun fv iv wr => ∃ i : Nat, i ≤ K ∧ iv = .int .i64 i ∧ Com w.heap.size nm fl (wrap32 (s + i)) (some (w.heap.size + 1)) wr ∧ Below w.heap.size w wr ∧ (i = 0 ∧ fv = .chan none ∨ 0 < i ∧ fv = .chan (some (w.heap.size + 1)))) (fun _ iv _ => K - (intOf iv).toNat)
  case atStart =>
    refine ⟨0, Nat.zero_le _, rfl, ?_, ((Below.refl _ _).alloc (Nat.le_refl _) _).alloc (Nat.le_of_lt (Com.new nm fl s _ w).lt) _, .inl ⟨rfl, rfl⟩⟩
    rw [← wrap_zero s HS.out]
    exact (Com.new nm fl s _ w).alloc _
  case round =>
    obtain ⟨i, hi, rfl, hC, hb, hf⟩ := hrel
    have HC : Hid (Com w.heap.size nm fl (wrap32 (s + i)) (some (w.heap.size + 1)) wr) := hC
    clear hC
    by_cases hlt : i < K
    · rcases hf with ⟨rfl, rfl⟩ | ⟨hi0, rfl⟩
      · have hk0 : (0 : Int) < (K : Int) := by omega
        go_wp2_with (go_at_call 6; go_must (refine (add_any _ _ _ _ _ _ HC.out).mono ?_; rintro e w1 ⟨c, hc, rfl, hC1, hb1⟩; obtain rfl := hc _ rfl; clear hc; have c29 := hC1.c29; have HC1 : Hid (Com w.heap.size nm fl (wrap32 (wrap32 (s + ((0 : Nat) : Int)) + 1)) (some (w.heap.size + 1)) w1) := hC1; clear hC1))
        go_roundw
        case rel => exact ⟨0 + 1, by omega, by go_num, by rw [← wrap_next]; exact HC1.out, hb.trans hb1, .inr ⟨by omega, rfl⟩⟩
        case measure => simp [intOf]; omega
      · have hik : (i : Int) < (K : Int) := by omega
        have hi1 : ¬ (i : Int) = 0 := by omega
        go_wp2_with (go_at_call 6; go_must (refine (add_any _ _ _ _ _ _ HC.out).mono ?_; rintro e w1 ⟨c, hc, rfl, hC1, hb1⟩; obtain rfl := hc _ rfl; clear hc; have c29 := hC1.c29; have HC1 : Hid (Com w.heap.size nm fl (wrap32 (wrap32 (s + i) + 1)) (some (w.heap.size + 1)) w1) := hC1; clear hC1))
        go_roundw
        case rel => exact ⟨i + 1, by omega, by go_num, by rw [← wrap_next]; exact HC1.out, hb.trans hb1, .inr ⟨by omega, rfl⟩⟩
        case measure => simp [intOf]; omega
    · obtain rfl : i = K := by omega
      have d2 := HC.out.c2
      have d10 := HC.out.c10
      have d12 := HC.out.c12
      have d25 := HC.out.c25
      have d29 := HC.out.c29
      have z10 := HC.out.z10
      have e2 : ((wr.setCell ⟨w.heap.size, 10, none⟩ (.int .i32 1)).setCell ⟨w.heap.size, 10, none⟩ (.int .i32 0)).cell? ⟨w.heap.size, 2, none⟩ = some (.string nm) := (World.cell?_setCell_other _ _ _ _ (by simp)).trans ((World.cell?_setCell_other _ _ _ _ (by simp)).trans d2)
      have e12 : ((wr.setCell ⟨w.heap.size, 10, none⟩ (.int .i32 1)).setCell ⟨w.heap.size, 10, none⟩ (.int .i32 0)).cell? ⟨w.heap.size, 12, none⟩ = some (.bool fl) := (World.cell?_setCell_other _ _ _ _ (by simp)).trans ((World.cell?_setCell_other _ _ _ _ (by simp)).trans d12)
      have e10 : (wr.setCell ⟨w.heap.size, 10, none⟩ (.int .i32 1)).cell? ⟨w.heap.size, 10, none⟩ = some (.int .i32 1) := World.cell?_setCell_same _ _ _ d10
      have y10 : (wr.setCell ⟨w.heap.size, 10, none⟩ (.int .i32 1)).frozen? ⟨w.heap.size, 10, none⟩ = false := by simp [z10]
      by_cases h0 : i = 0
      · subst h0
        go_wp2_with (first | (go_at_call 7; refine (tryLock.try7 _ _ d10 z10).mono ?_; rintro e w1 ⟨rfl, rfl⟩) | (go_at_call 8; refine (unlock_held Yba.muLib _ _ e10 y10).mono ?_; rintro e w2 ⟨rfl, rfl⟩))
        go_ret
        exact ⟨by simp, bset (bset hb _ _) _ _⟩
      · have h0' : ¬ (i : Int) = 0 := by omega
        go_wp2_with (first | (go_at_call 7; refine (tryLock.try7 _ _ d10 z10).mono ?_; rintro e w1 ⟨rfl, rfl⟩) | (go_at_call 8; refine (unlock_held Yba.muLib _ _ e10 y10).mono ?_; rintro e w2 ⟨rfl, rfl⟩))
        go_ret
        exact ⟨by simp, bset (bset hb _ _) _ _⟩
set_option maxRecDepth 100000 in
set_option maxHeartbeats 1000000 in
theorem counts_bare (s : Int) (K : Nat) (fl : Bool) (nm : ByteArray) (w : World) (hK : K ≤ 255) (hs : -2147483648 ≤ s ∧ s ≤ 2147483647) :
    Calls Yba.prog 4 #[.int .i32 s, .int .u8 K, .bool false, .bool fl, .string nm] w fun e w' => e = .returned (.bool true) ∧ Below w.heap.size w w' := by
  have q := addPar.eql_chan
  have q1 := addPar.neq_chan
  have q2 := addPar.make_chan
  have HS : Hid (-2147483648 ≤ s ∧ s ≤ 2147483647) := hs
  clear hs
  go_enter Yba.func4, Yba.ntmps4
  go_wp2
  go_loopw [13, 14] (fun fv iv wr => ∃ (i : Nat) (r : Option Nat), i ≤ K ∧ iv = .int .i64 i ∧ fv = .chan r ∧ Com w.heap.size nm fl (wrap32 (s + i)) r wr ∧ Below w.heap.size w wr ∧ (i = 0 ∧ r = none ∨ 0 < i ∧ ∃ c, r = some c)) (fun _ iv _ => K - (intOf iv).toNat)
  case atStart =>
    refine ⟨0, none, Nat.zero_le _, rfl, rfl, ?_, (Below.refl _ _).alloc (Nat.le_refl _) _, .inl ⟨rfl, rfl⟩⟩
    rw [← wrap_zero s HS.out]
    exact Com.new nm fl s _ w
  case round =>
    obtain ⟨i, r, hi, rfl, rfl, hC, hb, hf⟩ := hrel
    have HC : Hid (Com w.heap.size nm fl (wrap32 (s + i)) r wr) := hC
    clear hC
    by_cases hlt : i < K
    · rcases hf with ⟨rfl, rfl⟩ | ⟨hi0, c, rfl⟩
      · have hk0 : (0 : Int) < (K : Int) := by omega
        go_wp2_with (go_at_call 6; go_must (refine (add_any _ _ _ _ _ _ HC.out).mono ?_; rintro e w1 ⟨c, hc, rfl, hC1, hb1⟩; clear hc; have c29 := hC1.c29; have HC1 : Hid (Com w.heap.size nm fl (wrap32 (wrap32 (s + ((0 : Nat) : Int)) + 1)) (some c) w1) := hC1; clear hC1))
        go_roundw
        case rel => exact ⟨0 + 1, some c, by omega, by go_num, rfl, by rw [← wrap_next]; exact HC1.out, hb.trans hb1, .inr ⟨by omega, c, rfl⟩⟩
        case measure => simp [intOf]; omega
      · have hik : (i : Int) < (K : Int) := by omega
        have hi1 : ¬ (i : Int) = 0 := by omega
        go_wp2_with (go_at_call 6; go_must (refine (add_any _ _ _ _ _ _ HC.out).mono ?_; rintro e w1 ⟨d, hc, rfl, hC1, hb1⟩; obtain rfl := hc _ rfl; clear hc; have c29 := hC1.c29; have HC1 : Hid (Com w.heap.size nm fl (wrap32 (wrap32 (s + i) + 1)) (some c) w1) := hC1; clear hC1))
        go_roundw
        case rel => exact ⟨i + 1, some c, by omega, by go_num, rfl, by rw [← wrap_next]; exact HC1.out, hb.trans hb1, .inr ⟨by omega, c, rfl⟩⟩
        case measure => simp [intOf]; omega
    · obtain rfl : i = K := by omega
      have d2 := HC.out.c2
      have d10 := HC.out.c10
      have d12 := HC.out.c12
      have d25 := HC.out.c25
      have d29 := HC.out.c29
      have z10 := HC.out.z10
      have e2 : ((wr.setCell ⟨w.heap.size, 10, none⟩ (.int .i32 1)).setCell ⟨w.heap.size, 10, none⟩ (.int .i32 0)).cell? ⟨w.heap.size, 2, none⟩ = some (.string nm) := (World.cell?_setCell_other _ _ _ _ (by simp)).trans ((World.cell?_setCell_other _ _ _ _ (by simp)).trans d2)
      have e12 : ((wr.setCell ⟨w.heap.size, 10, none⟩ (.int .i32 1)).setCell ⟨w.heap.size, 10, none⟩ (.int .i32 0)).cell? ⟨w.heap.size, 12, none⟩ = some (.bool fl) := (World.cell?_setCell_other _ _ _ _ (by simp)).trans ((World.cell?_setCell_other _ _ _ _ (by simp)).trans d12)
      have e10 : (wr.setCell ⟨w.heap.size, 10, none⟩ (.int .i32 1)).cell? ⟨w.heap.size, 10, none⟩ = some (.int .i32 1) := World.cell?_setCell_same _ _ _ d10
      have y10 : (wr.setCell ⟨w.heap.size, 10, none⟩ (.int .i32 1)).frozen? ⟨w.heap.size, 10, none⟩ = false := by simp [z10]
      by_cases h0 : i = 0
      · obtain rfl : r = none := by rcases hf with ⟨_, h⟩ | ⟨h, _⟩ <;> first | exact h | omega
        subst h0
        go_wp2_with (first | (go_at_call 7; refine (tryLock.try7 _ _ d10 z10).mono ?_; rintro e w1 ⟨rfl, rfl⟩) | (go_at_call 8; refine (unlock_held Yba.muLib _ _ e10 y10).mono ?_; rintro e w2 ⟨rfl, rfl⟩))
        go_ret
        exact ⟨by simp, bset (bset hb _ _) _ _⟩
      · have h0' : ¬ (i : Int) = 0 := by omega
        go_wp2_with (first | (go_at_call 7; refine (tryLock.try7 _ _ d10 z10).mono ?_; rintro e w1 ⟨rfl, rfl⟩) | (go_at_call 8; refine (unlock_held Yba.muLib _ _ e10 y10).mono ?_; rintro e w2 ⟨rfl, rfl⟩))
        go_ret
        exact ⟨by simp, bset (bset hb _ _) _ _⟩
end Go.Proofs.Ybulkclpw
