/- The small functions on the law's road. -/
import Derived.Test.YbulkclouPg0
import Derived.WalkKit
import Derived.WalkSmall
import Derived.WalkLawsBesides
import Derived.WalkSpells
import Derived.Deep.QuietTactic
import Derived.BigQuiet
import Derived.Deep.DeepMust
import Derived.Deep.AppendLies
import Derived.Lib.SliceRun
import Derived.Deep.RegionHeld
namespace Go.Proofs.Ybulkclou.Pg
open Go.RowKit
set_option linter.unusedVariables false
set_option maxRecDepth 100000

theorem info2 : (Yba.prog.info? 2).map (fun i => (i.zero, i.size, i.bytes)) = some (some (.int .i64 0), 1, 8) := by kernel_rfl
theorem info5 : (Yba.prog.info? 5).map (fun i => (i.zero, i.size, i.bytes)) = some (some (.int .u8 0), 1, 1) := by kernel_rfl
theorem info33 : (Yba.prog.info? 33).map (fun i => (i.zero, i.size, i.bytes)) = some (some (.slice none 0 0), 1, 24) := by kernel_rfl

theorem eql48 (w : World) (a : Option Addr) (n c : Nat) : (binOp .eql 48 (.slice a n c) (.slice none 0 0)).run Yba.prog w = .ok (.bool a.isNone) w := Lib.run_eql_slice_nil w 48 2 a n c 0 0 Yba.underlying48

theorem clone_nil (w : World) : Calls Yba.prog 8 #[.slice none 0 0] w fun e w' => e = .returned (.slice none 0 0) ∧ w' = w := by
  have q := eql48
  go_enter Yba.func8, Yba.ntmps8
  go_wp2
  go_ret
  exact ⟨rfl, rfl⟩

theorem one6 (xs : List Int) : ∀ u ∈ i6 xs, u.oneCell' = true := by
  intro u hu
  obtain ⟨x, _, rfl⟩ := List.mem_map.1 hu
  rfl
theorem one8 (xs : List Int) : ∀ u ∈ by8 xs, u.oneCell' = true := by
  intro u hu
  obtain ⟨x, _, rfl⟩ := List.mem_map.1 hu
  rfl

theorem clone_some (x : Addr) (L cap : Nat) (frs : List Int) (w : World) (hL : frs.length = L) (hm : L ≤ 256) (hb : 0 < L → x.block < w.heap.size) (hc : ∀ j u, (i6 frs)[j]? = some u → w.cell? (x.add j) = some u) :
    Calls Yba.prog 8 #[.slice (some x) L cap] w fun e w' => ∃ fa fcap, e = .returned (.slice fa L fcap) ∧ w'.ownsRow w.heap.size 2 1 (.slice fa L fcap) L (i6 frs) ∧ Below w.heap.size w w' := by
  obtain ⟨i2, hi2, hz20, hz21, hz22⟩ := info_parts info2
  have q := eql48
  have HC : Hid _ := hc
  have hc2 : Hid (∀ j u, (i6 frs)[j]? = some u → (w.alloc (.cells #[] 2)).cell? (x.add j) = some u) := fun j u hu => by
    have h0 := HC.out j u hu
    exact (World.cell?_alloc_some w _ _ (by rw [h0]; rfl)).trans h0
  clear hc
  go_enter Yba.func8, Yba.ntmps8
  go_wp2_with (at_builtin; refine wpList_append_own _ rfl _ _ _ rfl w.heap.size 2 i2 _ 1 8 Yba.underlying48 hi2 hz20 hz21 hz22 rfl (by omega) _ 0 [] rfl (World.ownsRow_lit w #[] 0 (Nat.le_refl _) (by decide) rfl) x L cap (i6 frs) rfl (by simp [hL]) hc2.out (one6 _) (by unfold maxLen; omega) (by omega) (by simp) ?_; intro v' w1 ho hg hnil)
  go_ret
  rcases ho.2 with ⟨h1, h2⟩ | ⟨g, cap', cur, h1, h2⟩
  · have h3 := (hnil.1 h1).1
    cases h3
  · have hv : v' = .slice (some ⟨g, 0, none⟩) L cap' := by simpa using h1
    subst hv
    refine ⟨_, _, rfl, by simpa using ho, ?_⟩
    have hg' : (w.alloc (.cells #[] 2)).grownBy w1 (some w.heap.size) := hg
    exact ((Below.refl w.heap.size w).alloc (Nat.le_refl _) _).grown hg' (by simp) (fun k hk => Nat.le_of_eq (by simpa using hk))

theorem errnew (s : ByteArray) (w : World) : Calls Yba.prog 9 #[.string s] w fun e w' => e = .returned (.iface 75 (.pointer (some ⟨w.heap.size, 0, none⟩))) ∧ w' = w.alloc (.cells #[.string s] 77) := by
  go_enter Yba.func9, Yba.ntmps9
  go_wp2
  go_ret
  exact ⟨rfl, rfl⟩

theorem zeros5 (n : Nat) : (Builtin.zeroCells #[Value.int .u8 0] n) = (List.replicate n (Value.int .u8 0)).toArray := by
  apply Array.ext'
  apply List.ext_getElem?
  intro i
  simp only [Builtin.zeroCells, List.getElem?_replicate]
  by_cases h : i < n <;> simp [h, Nat.mod_one]

theorem newpw (FB P : Nat) (w : World) (hP : P ≤ 16) (h5 : w.cell? ⟨FB, 5, none⟩ = some (.int .i64 P)) :
    Calls Yba.prog 10 #[.pointer (some ⟨FB, 0, none⟩)] w fun e w' => e = .returned (.pointer (some ⟨w.heap.size + 1, 0, none⟩)) ∧
      w' = (w.alloc (.cells (madeCells #[Value.int .u8 0] P) 5)).alloc (.cells #[.pointer (some ⟨FB, 0, none⟩), .slice (some ⟨w.heap.size, 0, none⟩) 0 P, nilS, .int .i64 0, .nilIface] 69) := by
  obtain ⟨i5, hi5, hz50, hz51, hz52⟩ := info_parts info5
  have hmk : ∀ w, (Instr.makeSlice 33 (.int .i64 0) (.int .i64 (P : Int))).run Yba.prog w = .ok (.slice (some ⟨w.heap.size, 0, none⟩) 0 P) (w.alloc (.cells (madeCells #[.int .u8 0] P) 5)) := fun w => by
    have := run_make (P := Yba.prog) w 33 5 i5 _ Yba.underlying33 hi5 hz50 .i64 .i64 0 (P : Int) (by omega) (by omega) (by rw [hz52]; omega) (by omega)
    simpa [hz51, Value.cells] using this
  go_enter Yba.func10, Yba.ntmps10
  go_wp2
  go_ret
  exact ⟨rfl, rfl⟩

set_option maxHeartbeats 1000000 in
/-- slices.Equal where the two hold the same. -/
theorem sleq (a1 a2 : Option Addr) (n c1 c2 : Nat) (b1 o1 b2 o2 : Nat) (xs : List Int) (w : World) (hn : n ≤ 100000) (hx : xs.length = n) (h1 : 0 < n → a1 = some ⟨b1, o1, none⟩) (h2 : 0 < n → a2 = some ⟨b2, o2, none⟩)
    (q1 : ∀ j, j < n → w.cell? ⟨b1, o1 + j, none⟩ = some (.int .i64 (xs.getD j 0))) (q2 : ∀ j, j < n → w.cell? ⟨b2, o2 + j, none⟩ = some (.int .i64 (xs.getD j 0))) :
    Calls Yba.prog 12 #[.slice a1 n c1, .slice a2 n c2] w fun e w' => e = .returned (.bool true) ∧ w'.Alike w := by
  have HA : Hid ((0 < n → a1 = some ⟨b1, o1, none⟩) ∧ (0 < n → a2 = some ⟨b2, o2, none⟩)) := ⟨h1, h2⟩
  have H1 : Hid (∀ j, j < n → w.cell? ⟨b1, o1 + j, none⟩ = some (.int .i64 (xs.getD j 0))) := q1
  have H2 : Hid (∀ j, j < n → w.cell? ⟨b2, o2 + j, none⟩ = some (.int .i64 (xs.getD j 0))) := q2
  clear h1 h2 q1 q2
  go_enter Yba.func12, Yba.ntmps12
  go_wp2
  go_loopw [13] (fun iv wr => ∃ i : Nat, i ≤ n ∧ iv = .int .i64 i ∧ wr.Alike w) (fun iv _ => n - (intOf iv).toNat)
  case atStart => exact ⟨0, Nat.zero_le _, rfl, World.Alike.refl _⟩
  case round =>
    obtain ⟨i, hi, rfl, hR⟩ := hrel
    by_cases hlt : i < n
    · obtain ⟨rfl, rfl⟩ : a1 = some ⟨b1, o1, none⟩ ∧ a2 = some ⟨b2, o2, none⟩ := ⟨HA.out.1 (by omega), HA.out.2 (by omega)⟩
      have e1 := (hR.cell _).trans (H1.out i hlt)
      have e2 := (hR.cell _).trans (H2.out i hlt)
      have hln : (i : Int) < (n : Int) := by omega
      have HR : Hid _ := hR
      clear hR
      go_wp2
      go_quiet (fail)
      go_wp2
      go_roundw
      case rel => exact ⟨i + 1, by omega, by go_num, HR.out⟩
      case measure => simp [intOf]; omega
    · obtain rfl : i = n := by omega
      go_wp2
      go_ret
      exact ⟨rfl, hR⟩

end Go.Proofs.Ybulkclou.Pg
