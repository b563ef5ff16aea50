/- Plain mathematics: what nearestMiddle's place is. No Go in sight. -/
import Derived.Test.YbulkclpiNear
namespace Go.Proofs.Ybulkclpi
set_option linter.unusedVariables false

theorem nm_law (f : Nat → Int) (lo hi s : Nat) (n : Int) (hlo : lo < hi) (h1 : lo ≤ s) (h2 : s ≤ hi) (hlow : ∀ t, lo ≤ t → t < s → 2 * f t < n) (hhigh : ∀ t, s ≤ t → t < hi → n ≤ 2 * f t) (hmono : ∀ s t, s ≤ t → f s ≤ f t) :
    lo ≤ nm f lo hi n s ∧ nm f lo hi n s < hi ∧ (∀ t, lo ≤ t → t < hi → absI (2 * f (nm f lo hi n s) - n) ≤ absI (2 * f t - n)) ∧
    ((∀ s t, s < t → t < hi → f s < f t) → ∀ t, lo ≤ t → t < nm f lo hi n s → absI (2 * f (nm f lo hi n s) - n) < absI (2 * f t - n)) := by
  have neg : ∀ v : Int, v < 0 → absI v = -v := fun v h => by unfold absI; rw [if_pos h]
  have pos : ∀ v : Int, 0 ≤ v → absI v = v := fun v h => by unfold absI; rw [if_neg (by omega)]
  by_cases c : s = hi ∨ (lo < s ∧ n - 2 * f (s - 1) ≤ 2 * f s - n)
  · have e : nm f lo hi n s = s - 1 := by unfold nm; rw [if_pos c]
    have hs : lo < s := by rcases c with c | c; (omega); exact c.1
    rw [e]
    have hr := hlow (s - 1) (by omega) (by omega)
    refine ⟨by omega, by omega, fun t ht1 ht2 => ?_, fun hst t ht1 ht2 => ?_⟩
    · rw [neg _ (by omega)]
      by_cases hts : t < s
      · have h3 := hlow t ht1 hts
        rw [neg _ (by omega)]
        have := hmono t (s - 1) (by omega)
        omega
      · have h3 := hhigh t (by omega) ht2
        rw [pos _ (by omega)]
        rcases c with c | c
        · omega
        · have := hmono s t (by omega)
          omega
    · have h3 := hlow t ht1 (by omega)
      rw [neg _ (by omega), neg _ (by omega)]
      have := hst t (s - 1) ht2 (by omega)
      omega
  · have e : nm f lo hi n s = s := by unfold nm; rw [if_neg c]
    have hsh : s < hi := by
      rcases Nat.lt_or_ge s hi with h | h
      · exact h
      · exact absurd (Or.inl (by omega)) c
    rw [e]
    have hr := hhigh s (Nat.le_refl _) hsh
    have key : ∀ t, lo ≤ t → t < s → absI (2 * f s - n) < absI (2 * f t - n) := by
      intro t ht1 ht2
      have h3 := hlow t ht1 ht2
      rw [pos _ (by omega), neg _ (by omega)]
      have h4 : ¬ n - 2 * f (s - 1) ≤ 2 * f s - n := fun h => c (.inr ⟨by omega, h⟩)
      have := hmono t (s - 1) (by omega)
      omega
    refine ⟨h1, hsh, fun t ht1 ht2 => ?_, fun _ => key⟩
    by_cases hts : t < s
    · have := key t ht1 hts
      omega
    · have h3 := hhigh t (by omega) ht2
      rw [pos _ (by omega), pos _ (by omega)]
      have := hmono s t (by omega)
      omega

/-- The cuts of the first law, of the second. -/
def cutE (zs : List Int) : Nat → Int
  | 0 => zs.getD 0 0
  | k + 1 => cutE zs k + 1 + zs.getD (k + 1) 0
def cutM (zs : List Int) : Nat → Int
  | 0 => zs.getD 0 0 % 3
  | k + 1 => cutM zs k + zs.getD (k + 1) 0 % 3

theorem cutE_step (zs : List Int) (hz : ∀ i, 0 ≤ zs.getD i 0 ∧ zs.getD i 0 ≤ 255) : ∀ s t, s < t → cutE zs s < cutE zs t := by
  intro s t h
  induction t with
  | zero => omega
  | succ t ih =>
    have := hz (t + 1)
    show cutE zs s < cutE zs t + 1 + zs.getD (t + 1) 0
    by_cases e : s = t
    · subst e; omega
    · have := ih (by omega); omega
theorem cutE_bd (zs : List Int) (hz : ∀ i, 0 ≤ zs.getD i 0 ∧ zs.getD i 0 ≤ 255) : ∀ t, 0 ≤ cutE zs t ∧ cutE zs t ≤ 255 + 256 * t := by
  intro t
  induction t with
  | zero => have := hz 0; show 0 ≤ zs.getD 0 0 ∧ zs.getD 0 0 ≤ 255 + 256 * 0; omega
  | succ t ih =>
    have := hz (t + 1)
    show 0 ≤ cutE zs t + 1 + zs.getD (t + 1) 0 ∧ cutE zs t + 1 + zs.getD (t + 1) 0 ≤ 255 + 256 * ((t + 1 : Nat) : Int)
    omega
theorem cutM_step (zs : List Int) (hz : ∀ i, 0 ≤ zs.getD i 0 ∧ zs.getD i 0 ≤ 255) : ∀ s t, s ≤ t → cutM zs s ≤ cutM zs t := by
  intro s t h
  induction t with
  | zero => obtain rfl : s = 0 := by omega
            exact Int.le_refl _
  | succ t ih =>
    have := hz (t + 1)
    by_cases e : s = t + 1
    · subst e; exact Int.le_refl _
    · have := ih (by omega)
      show cutM zs s ≤ cutM zs t + zs.getD (t + 1) 0 % 3
      omega
theorem cutM_bd (zs : List Int) (hz : ∀ i, 0 ≤ zs.getD i 0 ∧ zs.getD i 0 ≤ 255) : ∀ t, 0 ≤ cutM zs t ∧ cutM zs t ≤ 2 + 2 * t := by
  intro t
  induction t with
  | zero => have := hz 0; show 0 ≤ zs.getD 0 0 % 3 ∧ zs.getD 0 0 % 3 ≤ 2 + 2 * 0; omega
  | succ t ih =>
    have := hz (t + 1)
    show 0 ≤ cutM zs t + zs.getD (t + 1) 0 % 3 ∧ cutM zs t + zs.getD (t + 1) 0 % 3 ≤ 2 + 2 * ((t + 1 : Nat) : Int)
    omega

/-- Held at the last. -/
def held (F : Nat → Int) (m t : Nat) : Int := F (min t (m - 1))
theorem held_at (F : Nat → Int) {m t : Nat} (h : t < m) : held F m t = F t := by unfold held; rw [Nat.min_eq_left (by omega)]
end Go.Proofs.Ybulkclpi
