/- The index behind i pushes; one push more; what 'next' reads of it. -/
import Derived.Test.YbulkclmqPushNil
import Derived.Test.YbulkclmqPushFull
import Derived.Test.YbulkclmqPushOld
namespace Go.Proofs.Ybulkclmq
open Go.RowKit
set_option linter.unusedVariables false

def PSt (X f i : Nat) (w : World) : Prop :=
  (i = 0 ∧ w.heap[X]? = some (.cells #[nilS, nilS] 27 (0, 0))) ∨
  (1 ≤ i ∧ ∃ nb n vE vB sE sV es bs xE xV, PI X f nb n vE vB sE sV es bs xE xV w ∧ i = (nb - 1) * f + n ∧ 1 ≤ n ∧ n ≤ f)

theorem PI.formB {X f nb n : Nat} {vE vB sE sV : Value} {es bs xE xV : List Value} {w : World} (h : PI X f nb n vE vB sE sV es bs xE xV w) : ∃ g cap, vB = .slice (some ⟨g, 0, none⟩) nb cap := by
  rcases h.oB.2 with ⟨_, h0⟩ | ⟨g, cap, hv, _⟩
  · have := h.nb1; omega
  · exact ⟨g, cap, hv⟩

theorem push_st (X f i : Nat) (en v fI : Int) (w : World) (hfI : fI = f) (hf : 1 ≤ f) (hf5 : f ≤ 5) (hi : i < 1024) (h : PSt X f i w) :
    Calls Yba.prog 5 #[.pointer (some ⟨X, 0, none⟩), .int .i64 en, .int .i64 v, .int .i64 fI] w fun e w' => e = .returned (.tuple #[]) ∧ PSt X f (i + 1) w' ∧ Below X w w' := by
  subst hfI
  rcases h with ⟨rfl, h⟩ | ⟨h1, nb, n, vE, vB, sE, sV, es, bs, xE, xV, hP, hin, hn1, hnf⟩
  · have hX := two_lt h
    refine (push_nil X f en v nilS [] w hf hf5 ⟨h, World.ownsRow_nil _ _ _ _, ⟨rfl, .inl ⟨rfl, rfl⟩⟩, fun t ht => absurd ht (by omega)⟩).mono ?_
    rintro e w' ⟨rfl, ⟨vE, vB, sE, sV, es, bs, xE, xV, hP⟩, hb⟩
    exact ⟨rfl, .inr ⟨by omega, 1, 1, vE, vB, sE, sV, es, bs, xE, xV, hP, by simp, by omega, hf⟩, hb⟩
  · have hnb := hP.nb1
    have hle : nb - 1 ≤ (nb - 1) * f := Nat.le_mul_of_pos_right _ (by omega)
    obtain ⟨gB, capB, rfl⟩ := hP.formB
    by_cases hfull : n = f
    · subst hfull
      refine (push_full X n nb gB capB en v vE es _ w hf hf5 hnb (by omega) (hP.full hf)).mono ?_
      rintro e w' ⟨rfl, ⟨vE, vB, sE, sV, es, bs, xE, xV, hP'⟩, hb⟩
      refine ⟨rfl, .inr ⟨by omega, nb + 1, 1, vE, vB, sE, sV, es, bs, xE, xV, hP', ?_, by omega, hf⟩, hb⟩
      rw [hin, Nat.add_sub_cancel]
      have : nb * n = (nb - 1) * n + n := by
        obtain ⟨m, rfl⟩ : ∃ m, nb = m + 1 := ⟨nb - 1, by omega⟩
        rw [Nat.add_sub_cancel, Nat.succ_mul]
      omega
    · obtain ⟨gE, capE, rfl, _⟩ := hP.oE.form (by omega)
      obtain ⟨hE, cE, rfl, _⟩ := hP.o1.form (by omega)
      obtain ⟨hV, cV, rfl, _⟩ := hP.o2.form (by omega)
      refine (push_old X f nb n gE capE gB capB hE cE hV cV en v es bs xE xV w hf5 hnb (by omega) hn1 (by omega) hP).mono ?_
      rintro e w' ⟨rfl, ⟨vE, vB, sE, sV, es, bs, xE, xV, hP'⟩, hb⟩
      exact ⟨rfl, .inr ⟨by omega, nb, n + 1, vE, vB, sE, sV, es, bs, xE, xV, hP', by omega, by omega, by omega⟩, hb⟩

theorem PI.below {X f nb n : Nat} {vE vB sE sV : Value} {es bs xE xV : List Value} {w w1 : World} (h : PI X f nb n vE vB sE sV es bs xE xV w) (hb : Below w.heap.size w w1) : PI X f nb n vE vB sE sV es bs xE xV w1 :=
  ⟨hp_below hb h.blk, ow_below hb h.oE, br_below hb h.oB, h.nb1, h.hbs, h.len, ow_below hb h.o1, ow_below hb h.o2, h.ne⟩

/-- Where the walk stands behind k steps. -/
def bAt (c f k : Nat) : Nat := if k < c then k / f else (c + f - 1) / f
def rAt (c f k : Nat) : Nat := if k < c then k % f else 0

theorem at_zero (c f : Nat) (hf : 1 ≤ f) (hf5 : f ≤ 5) : bAt c f 0 = 0 ∧ rAt c f 0 = 0 := by
  have h5 : f = 1 ∨ f = 2 ∨ f = 3 ∨ f = 4 ∨ f = 5 := by omega
  unfold bAt rAt
  rcases h5 with rfl | rfl | rfl | rfl | rfl
  all_goals
    refine ⟨?_, ?_⟩ <;> split <;> omega
theorem at_end (c f : Nat) (hf : 1 ≤ f) : (Obj.cells #[.int .i64 (bAt c f c), .int .i64 (rAt c f c)] 30 (0, 0)) = .cells #[.int .i64 (((c : Int) + (f : Int) - 1) / (f : Int)), .int .i64 0] 30 (0, 0) := by
  unfold bAt rAt
  rw [if_neg (by omega), if_neg (by omega), Int.natCast_ediv]
  have : ((c + f - 1 : Nat) : Int) = (c : Int) + (f : Int) - 1 := by omega
  rw [this]
  rfl
theorem at_next (c f k nb n : Nat) (hf : 1 ≤ f) (hf5 : f ≤ 5) (hnb : 1 ≤ nb) (hc : c = (nb - 1) * f + n) (hn : 1 ≤ n) (hnf : n ≤ f) (hk : k < c) :
    k / f < nb ∧ (k % f + 1 < (if k / f + 1 < nb then f else n) → bAt c f (k + 1) = k / f ∧ rAt c f (k + 1) = k % f + 1) ∧
    (¬ k % f + 1 < (if k / f + 1 < nb then f else n) → bAt c f (k + 1) = k / f + 1 ∧ rAt c f (k + 1) = 0) := by
  have h5 : f = 1 ∨ f = 2 ∨ f = 3 ∨ f = 4 ∨ f = 5 := by omega
  unfold bAt rAt
  rcases h5 with rfl | rfl | rfl | rfl | rfl
  all_goals
    refine ⟨by omega, ?_, ?_⟩
    all_goals
      intro h
      split at h <;> split <;> omega

/-- The lengths that 'next' reads. -/
theorem PI.lenAt {X f nb n g cap t : Nat} {vE sE sV : Value} {es bs xE xV : List Value} {w : World} (h : PI X f nb n vE (.slice (some ⟨g, 0, none⟩) nb cap) sE sV es bs xE xV w) (hn : 1 ≤ n) (ht : t < nb) :
    ∃ a c, w.cell? ⟨g, t * 2, none⟩ = some (.slice a (if t + 1 < nb then f else n) c) := by
  have hb := h.hbs
  by_cases h1 : t + 1 < nb
  · obtain ⟨a, c, e⟩ := h.len t h1
    refine ⟨a, c, ?_⟩
    rw [br_cell h.oB _ (by simp; omega), List.getElem?_append_left (by omega), e, if_pos h1]
  · obtain ⟨hE, cE, rfl, _⟩ := h.o1.form (by omega)
    refine ⟨some ⟨hE, 0, none⟩, cE, ?_⟩
    rw [h.cellE (m := t * 2) (by omega), if_neg h1]
end Go.Proofs.Ybulkclmq
