/- What the page writer's state is, by the bytes that it was handed; writePage in those words. -/
import Derived.Test.YbulkclouPg3
namespace Go.Proofs.Ybulkclou.Pg
open Go.RowKit
set_option linter.unusedVariables false

/-- Where the next new page lies behind k attempts. -/
def enAt (c : Cx) (e0 : Int) (k : Nat) : Int := IntKind.i64.wrap (e0 + (((k - c.L) * c.P : Nat) : Int))
/-- The offset of attempt j. -/
def offAt (c : Cx) (e0 : Int) (j : Nat) : Int := if j < c.L then c.frs.getD (c.L - 1 - j) 0 else enAt c e0 j
def offs (c : Cx) (e0 : Int) (k : Nat) : List Int := (List.range k).map (offAt c e0)

theorem offs_succ (c : Cx) (e0 : Int) (k : Nat) : offs c e0 (k + 1) = offs c e0 k ++ [offAt c e0 k] := by simp [offs, List.range_succ]
theorem offs_length (c : Cx) (e0 : Int) (k : Nat) : (offs c e0 k).length = k := by simp [offs]
theorem enAt_succ (c : Cx) (e0 : Int) (k : Nat) (h : c.L ≤ k) : enAt c e0 (k + 1) = IntKind.i64.wrap (enAt c e0 k + c.P) := by
  unfold enAt
  have h1 : (k + 1 - c.L) * c.P = (k - c.L) * c.P + c.P := by rw [Nat.succ_sub h, Nat.succ_mul]
  rw [h1]
  generalize (k - c.L) * c.P = x
  rw [IntKind.wrap_i64, IntKind.wrap_i64, IntKind.wrap_i64]
  omega
theorem enAt_free (c : Cx) (e0 : Int) (k : Nat) (h : k < c.L) : enAt c e0 (k + 1) = enAt c e0 k := by
  unfold enAt
  have h1 : k + 1 - c.L = 0 := by omega
  have h2 : k - c.L = 0 := by omega
  rw [h1, h2]

/-- What holds of the law's fixed things. -/
structure Cx.Ok (c : Cx) : Prop where
  P1 : 1 ≤ c.P
  P2 : c.P ≤ 16
  F7 : c.F ≤ 7
  L2 : c.L ≤ 256
  fl : c.frs.length = c.L

theorem wpage (c : Cx) (ok : c.Ok) (e0 : Int) (k : Nat) (vo vd vp : Value) (dv : List Value) (pgs : List (List Int)) (bs : List Int) (vD : Value) (xD : List Int) (w : World)
    (h : SI c vo vd vp dv (offs c e0 k) pgs bs (offs c e0 k) ((k * c.P : Nat) : Int) .nilIface (c.L - k) (enAt c e0 k) vD xD w) (hk : k = pgs.length) (hbs : bs.length = c.P) (hkP : k * c.P ≤ 5000) :
    Calls Yba.prog 13 #[.pointer (some ⟨c.WB, 0, none⟩)] w fun e w' => e = .returned (.tuple #[]) ∧
      (k + 1 = c.F → ∃ vo' vd' dv', SI c vo' vd' vp dv' (offs c e0 (k + 1)) (pgs ++ [bs]) bs (offs c e0 k) ((k * c.P : Nat) : Int) (.iface 75 (.pointer (some ⟨c.EB, 0, none⟩))) (c.L - (k + 1)) (enAt c e0 (k + 1)) vD xD w') ∧
      (k + 1 ≠ c.F → ∃ vo' vd' vp' dv', SI c vo' vd' vp' dv' (offs c e0 (k + 1)) (pgs ++ [bs]) [] (offs c e0 (k + 1)) (((k + 1) * c.P : Nat) : Int) .nilIface (c.L - (k + 1)) (enAt c e0 (k + 1)) vD xD w') := by
  have hP := ok.P1
  have hk5 : k ≤ 5000 := Nat.le_trans (Nat.le_mul_of_pos_right k (by omega)) hkP
  have hol := offs_length c e0 k
  have hsz : ((k * c.P : Nat) : Int) + (bs.length : Int) = (((k + 1) * c.P : Nat) : Int) := by rw [hbs, Nat.succ_mul]; omega
  by_cases hL : k < c.L
  · obtain ⟨m, hm⟩ : ∃ m, c.L - k = m + 1 := ⟨c.L - k - 1, by omega⟩
    rw [hm] at h
    have e1 : c.frs.getD m 0 = offAt c e0 k := by
      unfold offAt
      rw [if_pos hL, show c.L - 1 - k = m by omega]
    have e2 : c.L - (k + 1) = m := by omega
    refine (wpage_free c vo vd vp dv _ pgs bs _ _ m _ vD xD w h ok.P1 ok.P2 hbs (by omega) (by omega) (by omega) (by omega) (by omega) ok.F7 (by omega) ok.L2 ok.fl).mono ?_
    rintro e w' ⟨he, h1, h2⟩
    rw [hol] at h1 h2
    rw [e1, ← offs_succ, ← e2, ← enAt_free c e0 k hL] at h1 h2
    rw [hsz] at h2
    exact ⟨he, h1, h2⟩
  · have h0 : c.L - k = 0 := by omega
    rw [h0] at h
    have e1 : enAt c e0 k = offAt c e0 k := by
      unfold offAt
      rw [if_neg hL]
    have e2 : c.L - (k + 1) = 0 := by omega
    refine (wpage_end c vo vd vp dv _ pgs bs _ _ _ vD xD w h ok.P1 ok.P2 hbs (by omega) (by omega) (by omega) (by omega) (by omega) ok.F7).mono ?_
    rintro e w' ⟨he, h1, h2⟩
    rw [hol] at h1 h2
    rw [← enAt_succ c e0 k (by omega), e1, ← offs_succ] at h1 h2
    rw [hsz] at h2
    rw [e2]
    exact ⟨he, h1, h2⟩

/-- The writer has no error: D is what it was handed. -/
def Okay (c : Cx) (e0 : Int) (D : List Int) (vD : Value) (xD : List Int) (w : World) : Prop :=
  ∃ vo vd vp dv k pgs bs, k = List.length pgs ∧ (∀ p ∈ pgs, p.length = c.P) ∧ List.length bs < c.P ∧ D = pgs.flatten ++ bs ∧ (c.F = 0 ∨ k < c.F) ∧
    SI c vo vd vp dv (offs c e0 k) pgs bs (offs c e0 k) ((k * c.P : Nat) : Int) .nilIface (c.L - k) (enAt c e0 k) vD xD w

/-- The spill file has failed: D is what the writer was handed. -/
def Failed (c : Cx) (e0 : Int) (D : List Int) (vD : Value) (xD : List Int) (w : World) : Prop :=
  ∃ vo vd vp dv k pgs bs rest, k = List.length pgs ∧ (∀ p ∈ pgs, p.length = c.P) ∧ bs.length = c.P ∧ D = (pgs ++ [bs]).flatten ++ rest ∧ k + 1 = c.F ∧
    SI c vo vd vp dv (offs c e0 (k + 1)) (pgs ++ [bs]) bs (offs c e0 k) ((k * c.P : Nat) : Int) (.iface 75 (.pointer (some ⟨c.EB, 0, none⟩))) (c.L - (k + 1)) (enAt c e0 (k + 1)) vD xD w

theorem flat_len {P : Nat} : ∀ (pgs : List (List Int)), (∀ p ∈ pgs, p.length = P) → pgs.flatten.length = pgs.length * P
  | [], _ => by simp
  | p :: ps, h => by
    have h1 := flat_len ps (fun q hq => h q (by simp [hq]))
    have h2 := h p (by simp)
    simp [h1, h2, Nat.succ_mul]
    omega

theorem Failed.more {c : Cx} {e0 : Int} {D ys : List Int} {vD : Value} {xD : List Int} {w : World} (h : Failed c e0 D vD xD w) : Failed c e0 (D ++ ys) vD xD w := by
  obtain ⟨vo, vd, vp, dv, k, pgs, bs, rest, h1, h2, h3, rfl, h5, h6⟩ := h
  exact ⟨vo, vd, vp, dv, k, pgs, bs, rest ++ ys, h1, h2, h3, by simp, h5, h6⟩

end Go.Proofs.Ybulkclou.Pg
