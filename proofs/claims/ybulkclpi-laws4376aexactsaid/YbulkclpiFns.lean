import Derived.Test.YbulkclpiRows
import Derived.WalkKit
import Derived.WalkSmall
import Derived.WalkLawsBesides
import Derived.Deep.QuietTactic
import Derived.BigQuiet
import Derived.Deep.DeepMust
import Derived.Deep.Draws
namespace Go.Proofs.Ybulkclpi
open Go.RowKit
set_option linter.unusedVariables false

def absI (v : Int) : Int := if v < 0 then -v else v
theorem abs_any (v : Int) (w : World) (h1 : -1000000000000 ≤ v) (h2 : v ≤ 1000000000000) : Calls Yba.prog 6 #[.int .i64 v] w fun e w' => e = .returned (.int .i64 (absI v)) ∧ w' = w := by
  by_cases h : v < 0
  · have e : absI v = -v := by unfold absI; rw [if_pos h]
    rw [e]
    go_enter Yba.func6, Yba.ntmps6
    go_wp2
    go_ret
    exact ⟨rfl, rfl⟩
  · have e : absI v = v := by unfold absI; rw [if_neg h]
    rw [e]
    go_enter Yba.func6, Yba.ntmps6
    go_wp2
    go_ret
    exact ⟨rfl, rfl⟩

theorem range_any (m lo q : Nat) (rlo rhi : Int) (w : World) (hm : 1 ≤ m) (hm2 : m ≤ 1024) (h1 : 0 ≤ rlo ∧ rlo ≤ 65535) (h2 : 0 ≤ rhi ∧ rhi ≤ 65535) (hlo : rlo % (m : Int) = lo) (hlm : lo < m) (hq : rhi % ((m : Int) - (lo : Int)) = q) (hqm : q < m - lo) :
    Calls Yba.prog 5 #[.int .i64 m, .int .u16 rlo, .int .u16 rhi] w fun e w' => e = .returned (.tuple #[.int .i64 lo, .int .i64 ((lo : Int) + 1 + q)]) ∧ w' = w := by
  have hm0 : ((m : Int) == 0) = false := by simp; omega
  have hm1 : ((m : Int) - (lo : Int) == 0) = false := by simp; omega
  go_enter Yba.func5, Yba.ntmps5
  go_wp2
  go_ret2
  exact ⟨by simp [hlo], rfl⟩

/-- The closure: 2*cuts[lo+i] >= n. -/
theorem clo_any (C LO NB g m cap lo i : Nat) (n fv : Int) (w : World) (hm : m ≤ 100000) (hi : lo + i < m) (hfv : -1000000000 ≤ fv ∧ fv ≤ 1000000000)
    (hC : w.cell? ⟨C, 0, none⟩ = some (.slice (some ⟨g, 0, none⟩) m cap)) (hL : w.cell? ⟨LO, 0, none⟩ = some (.int .i64 lo)) (hN : w.cell? ⟨NB, 0, none⟩ = some (.int .i64 n)) (hg : w.cell? ⟨g, lo + i, none⟩ = some (.int .i64 fv)) :
    Calls Yba.prog 9 #[.int .i64 i, .pointer (some ⟨C, 0, none⟩), .pointer (some ⟨LO, 0, none⟩), .pointer (some ⟨NB, 0, none⟩)] w fun e w' => e = .returned (.bool (decide (n ≤ 2 * fv))) ∧ ∃ k, w' = w.drewN k := by
  have hb0 : (0 : Int) ≤ (lo : Int) + (i : Int) := by omega
  have hb1 : (lo : Int) + (i : Int) < (m : Int) := by omega
  have hw1 : IntKind.i64.wrap ((lo : Int) + (i : Int)) = (lo : Int) + (i : Int) := by rw [IntKind.wrap_i64]; omega
  have hw2 : IntKind.i64.wrap (2 * fv) = 2 * fv := by rw [IntKind.wrap_i64]; omega
  have ht : ((lo : Int) + (i : Int)).toNat = lo + i := by omega
  go_enter Yba.func9, Yba.ntmps9
  go_wp2
  go_quiet (fail)
  go_wp2
  go_ret
  exact ⟨rfl, nq, rfl⟩

/-- sort.Search over that closure: how many places below N are still below. -/
theorem search_any (C LO NB g m cap lo N : Nat) (n : Int) (f : Nat → Int) (w : World) (hm : m ≤ 100000) (hN : lo + N ≤ m) (hf : ∀ t, -1000000000 ≤ f t ∧ f t ≤ 1000000000) (hmono : ∀ s t, s ≤ t → f s ≤ f t)
    (hC : w.cell? ⟨C, 0, none⟩ = some (.slice (some ⟨g, 0, none⟩) m cap)) (hL : w.cell? ⟨LO, 0, none⟩ = some (.int .i64 lo)) (hNB : w.cell? ⟨NB, 0, none⟩ = some (.int .i64 n)) (hg : ∀ t, t < m → w.cell? ⟨g, t, none⟩ = some (.int .i64 (f t))) :
    Calls Yba.prog 8 #[.int .i64 N, .func (.func 9) #[] #[.pointer (some ⟨C, 0, none⟩), .pointer (some ⟨LO, 0, none⟩), .pointer (some ⟨NB, 0, none⟩)]] w fun e w' =>
      ∃ s : Nat, s ≤ N ∧ (∀ t, t < s → 2 * f (lo + t) < n) ∧ (∀ t, s ≤ t → t < N → n ≤ 2 * f (lo + t)) ∧ e = .returned (.int .i64 s) ∧ ∃ k, w' = w.drewN k := by
  have HG : Hid (∀ t, t < m → w.cell? ⟨g, t, none⟩ = some (.int .i64 (f t))) := hg
  have HM : Hid (∀ s t, s ≤ t → f s ≤ f t) := hmono
  have HF : Hid (∀ t, -1000000000 ≤ f t ∧ f t ≤ 1000000000) := hf
  clear hg hmono hf
  go_enter Yba.func8, Yba.ntmps8
  go_wp2
  go_loopw [5, 6] (fun iv jv wq => ∃ i j : Nat, i ≤ j ∧ j ≤ N ∧ iv = .int .i64 i ∧ jv = .int .i64 j ∧ (∀ t, t < i → 2 * f (lo + t) < n) ∧ (∀ t, j ≤ t → t < N → n ≤ 2 * f (lo + t)) ∧ ∃ k, wq = w.drewN k) (fun iv jv _ => (intOf jv).toNat - (intOf iv).toNat)
  case atStart => exact ⟨0, N, Nat.zero_le _, Nat.le_refl _, rfl, rfl, fun t ht => absurd ht (by omega), fun t h1 h2 => absurd h2 (by omega), 0, rfl⟩
  case round =>
    obtain ⟨i, j, hij, hjN, rfl, rfl, hlow, hhigh, k, rfl⟩ := hrel
    have Hlow : Hid _ := hlow
    have Hhigh : Hid _ := hhigh
    clear hlow hhigh
    by_cases hlt : i < j
    · obtain ⟨h, hh1, hh2, hh⟩ : ∃ h : Nat, i ≤ h ∧ h < j ∧ ((i : Int) + (j : Int)) / 2 = h := ⟨(i + j) / 2, by omega, by omega, by omega⟩
      by_cases hp : n ≤ 2 * f (lo + h)
      · have hd : decide (n ≤ 2 * f (lo + h)) = true := by simpa using hp
        go_wp2_with fail
        refine (clo_any C LO NB g m cap lo h n (f (lo + h)) _ hm (by omega) (HF.out _) (by exact hC) (by exact hL) (by exact hNB) (by exact HG.out _ (by omega))).mono ?_
        rintro e w1 ⟨rfl, k2, rfl⟩
        go_wp2
        go_roundw
        case rel => exact ⟨i, h, hh1, by omega, rfl, rfl, Hlow.out, fun t h1 h2 => by have := HM.out (lo + h) (lo + t) (by omega); omega, k + k2, rfl⟩
        case measure => simp [intOf]; omega
      · have hd : decide (n ≤ 2 * f (lo + h)) = false := by simpa using hp
        go_wp2_with fail
        refine (clo_any C LO NB g m cap lo h n (f (lo + h)) _ hm (by omega) (HF.out _) (by exact hC) (by exact hL) (by exact hNB) (by exact HG.out _ (by omega))).mono ?_
        rintro e w1 ⟨rfl, k2, rfl⟩
        go_wp2
        go_roundw
        case rel => exact ⟨h + 1, j, by omega, hjN, by go_num, rfl, fun t h1 => by have := HM.out (lo + t) (lo + h) (by omega); omega, Hhigh.out, k + k2, rfl⟩
        case measure => simp [intOf]; omega
    · obtain rfl : i = j := by omega
      go_wp2
      go_ret
      exact ⟨i, hjN, Hlow.out, Hhigh.out, rfl, k, rfl⟩
end Go.Proofs.Ybulkclpi
