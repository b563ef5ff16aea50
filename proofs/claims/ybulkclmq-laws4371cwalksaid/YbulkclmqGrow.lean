import Derived.Test.YbulkclmqRows
import Derived.Test.YbulkclmqParts
import Derived.WalkKit
import Derived.WalkSmall
import Derived.WalkLawsBesides
import Derived.Lib.AppendZeros
namespace Go.Proofs.Ybulkclmq
open Go.RowKit
set_option linter.unusedVariables false

theorem Yba.info36 : (Yba.prog.info? 36).map (fun i => (i.zero, i.size, i.bytes)) = some (some (.agg #[.slice none 0 0, .slice none 0 0]), 2, 48) := by kernel_rfl

/-- append(s, make([]T, n)...) where it must grow. -/
theorem run_append_zeros_grow {P : Program} (w : World) (t tn ty e : TypeId) (i : TypeInfo) (z : Value) (k kn : IntKind) (ht : P.underlying t = some (.slice e)) (htn : P.underlying tn = some (.int kn)) (hi : P.info? e = some i) (hz : i.zero = some z)
    (b : Addr) (sLen sCap : Nat) (olds : List Value) (hlo : olds.length = sLen * i.size) (holds : ∀ j v, olds[j]? = some v → w.cell? (b.add j) = some v)
    (n : Nat) (h0 : 0 < n) (hs : 0 < i.size) (hg : sCap < sLen + n) (h63 : ((sLen + n : Nat) : Int) ≤ 9223372036854775807) (h48 : n * i.bytes ≤ 281474976710656) (hfit : Builtin.nextslicecap (sLen + n) sCap * i.bytes ≤ 281474976710656) :
    (Builtin.append_ #[t, tn] ty #[.slice (some b) sLen sCap, .int k n]).run P w =
      .ok (.slice (some ⟨w.heap.size, 0, none⟩) (sLen + n) (grownCap w (sLen + n) sCap e))
        (w.drew.alloc (.cells (olds.toArray ++ Builtin.zeroCells z.cells n ++ Builtin.zeroCells z.cells (grownCap w (sLen + n) sCap e - (sLen + n))) e)) := by
  have hn0 : n ≠ 0 := by omega
  have hn : ¬ (sLen + n ≤ sCap) := by omega
  have hw : IntKind.i64.wrap (n : Int) = n := by rw [IntKind.wrap_i64]; omega
  have h63' : ¬ (9223372036854775807 < ((sLen : Int) + (n : Int))) := by omega
  have h48' : ¬ (281474976710656 < Builtin.nextslicecap (sLen + n) sCap * i.bytes) := by omega
  have h48i : ¬ (281474976710656 < (n : Int) * (i.bytes : Int)) := by
    rw [← Int.natCast_mul]
    omega
  have hneg : ¬ ((n : Int) < 0) := by omega
  have hns : ¬ (n * i.size = 0) := Nat.mul_ne_zero hn0 (by omega)
  have hfo := run_firstCells_some (P := P) w.drew i.size sLen b sLen sCap olds hlo (by simpa using holds)
  simp [Builtin.append_, run_underlying ht, run_underlying htn, sizeOf, typeInfo, zeroValue, hi, hz, asInt, asIntOf, hw, hn, hneg, hns, h63', h48', h48i, Question.forced, hfo, newRow, grownCap]

abbrev nilS : Value := .slice none 0 0

theorem zeroCells_nils (z : Value) (hz : z.cells = #[nilS, nilS]) (n : Nat) : Builtin.zeroCells z.cells n = (List.replicate (n * 2) nilS).toArray := by
  apply Array.ext'
  rw [hz]
  apply List.ext_getElem?
  intro i
  simp only [Builtin.zeroCells, List.getElem?_replicate]
  by_cases h : i < n * 2
  · have h2 : i % 2 = 0 ∨ i % 2 = 1 := by omega
    rcases h2 with h2 | h2 <;> simp [h, h2]
  · simp [h]

/-- The slice v of blocks (two cells each) has n blocks, the cells xs; the spare behind them is blank. -/
def BRow (w : World) (base : Nat) (v : Value) (n : Nat) (xs : List Value) : Prop :=
  xs.length = n * 2 ∧ ((v = .slice none 0 0 ∧ n = 0) ∨ ∃ g cap, v = .slice (some ⟨g, 0, none⟩) n cap ∧ base ≤ g ∧ n ≤ cap ∧ cap ≤ maxLen ∧ w.heap[g]? = some (.cells (xs ++ List.replicate ((cap - n) * 2) nilS).toArray 36 (0, 0)))

set_option maxHeartbeats 400000 in
theorem grow_room (a : Option Addr) (n cap : Nat) (w : World) (hn : n ≤ 1024) (hc : cap ≤ 9223372036854775807) (h : n < cap) :
    Calls Yba.prog 7 #[.slice a n cap, .int .i64 1] w fun e w' => e = .returned (.slice a n cap) ∧ w' = w := by
  go_enter Yba.func7, Yba.ntmps7
  go_wp2
  go_ret
  exact ⟨rfl, rfl⟩

set_option maxHeartbeats 400000 in
theorem grow_full (g n : Nat) (xs : List Value) (w : World) (hn : n ≤ 1024) (hx : xs.length = n * 2) (hg : w.heap[g]? = some (.cells xs.toArray 36 (0, 0))) :
    Calls Yba.prog 7 #[.slice (some ⟨g, 0, none⟩) n n, .int .i64 1] w fun e w' => ∃ cap, e = .returned (.slice (some ⟨w.heap.size, 0, none⟩) n cap) ∧ n + 1 ≤ cap ∧ cap ≤ maxLen ∧ w' = w.drew.alloc (.cells (xs ++ List.replicate ((cap - n) * 2) nilS).toArray 36) := by
  obtain ⟨i36, hi36, hz60, hz61, hz62⟩ := info_parts Yba.info36
  have hold : ∀ j v, xs[j]? = some v → w.cell? ((⟨g, 0, none⟩ : Addr).add j) = some v := World.news_of_block (cs := xs.toArray) hg
  have hge := grownCap_ge w (n + 1) n 36
  have hcm := grownCap_le_maxLen w (n + 1) n 36 (by unfold maxLen; omega)
  have hr := fun ty => run_append_zeros_grow (P := Yba.prog) w 25 3 ty 36 i36 _ .i64 .i64 Yba.underlying25 Yba.underlying3 hi36 hz60 ⟨g, 0, none⟩ n n xs (by rw [hz61]; exact hx) hold 1 (by omega) (by omega) (by omega) (by omega) (by rw [hz62]; omega) (growslice_fits (by omega) (by rw [hz62]; omega))
  generalize hcap : grownCap w (n + 1) n 36 = cap at hr hge hcm
  have hr2 : ∀ ty, (Builtin.append_ #[25, 3] ty #[.slice (some ⟨g, 0, none⟩) n n, .int .i64 1]).run Yba.prog w = .ok (.slice (some ⟨w.heap.size, 0, none⟩) (n + 1) cap) (w.drew.alloc (.cells (xs ++ List.replicate ((cap - n) * 2) nilS).toArray 36)) := by
    intro ty
    have := hr ty
    rw [zeroCells_nils _ rfl, zeroCells_nils _ rfl] at this
    rw [show (((1 : Nat) : Int)) = 1 from rfl] at this
    rw [this]
    congr 3
    apply Array.ext'
    simp only [Array.toList_append, List.append_assoc, List.replicate_append_replicate]
    congr 2
    omega
  have H2 : Hid _ := hr2
  clear hr hr2 hcap hold hi36 hz60 hz61 hz62
  unfold maxLen at hcm
  go_enter Yba.func7, Yba.ntmps7
  go_wp2_with (at_builtin; refine Lib.wpList_append_run _ rfl _ _ _ _ rfl _ _ rfl rfl _ _ (H2.out _) ?_)
  go_ret
  exact ⟨cap, rfl, hge, by unfold maxLen; omega, rfl⟩

set_option maxHeartbeats 400000 in
theorem grow_nil (w : World) :
    Calls Yba.prog 7 #[.slice none 0 0, .int .i64 1] w fun e w' => ∃ cap, e = .returned (.slice (some ⟨w.heap.size, 0, none⟩) 0 cap) ∧ 1 ≤ cap ∧ cap ≤ maxLen ∧ w' = w.drew.alloc (.cells (List.replicate (cap * 2) nilS).toArray 36) := by
  obtain ⟨i36, hi36, hz60, hz61, hz62⟩ := info_parts Yba.info36
  have hge := grownCap_ge w 1 0 36
  have hcm := grownCap_le_maxLen w 1 0 36 (by unfold maxLen; omega)
  have hr := fun ty => Lib.run_append_nil_zeros (P := Yba.prog) w 25 3 ty 36 i36 _ .i64 .i64 Yba.underlying25 Yba.underlying3 hi36 hz60 1 (by omega) (by omega) (by omega) (by rw [hz62]; omega)
  generalize hcap : grownCap w 1 0 36 = cap at hr hge hcm
  have hr2 : ∀ ty, (Builtin.append_ #[25, 3] ty #[.slice none 0 0, .int .i64 1]).run Yba.prog w = .ok (.slice (some ⟨w.heap.size, 0, none⟩) 1 cap) (w.drew.alloc (.cells (List.replicate (cap * 2) nilS).toArray 36)) := by
    intro ty
    have := hr ty
    rw [zeroCells_nils _ rfl, zeroCells_nils _ rfl] at this
    rw [show (((1 : Nat) : Int)) = 1 from rfl] at this
    rw [this]
    congr 3
    apply Array.ext'
    simp only [Array.toList_append, List.replicate_append_replicate]
    congr 1
    omega
  have H2 : Hid _ := hr2
  clear hr hr2 hcap hi36 hz60 hz61 hz62
  unfold maxLen at hcm
  go_enter Yba.func7, Yba.ntmps7
  go_wp2_with (at_builtin; refine Lib.wpList_append_run _ rfl _ _ _ _ rfl _ _ rfl rfl _ _ (H2.out _) ?_)
  go_ret
  exact ⟨cap, rfl, hge, by unfold maxLen; omega, rfl⟩

theorem grow_any (w : World) (base : Nat) (v : Value) (n : Nat) (xs : List Value) (hB : BRow w base v n xs) (hn : n ≤ 1024) (hbase : base ≤ w.heap.size) :
    Calls Yba.prog 7 #[v, .int .i64 1] w fun e w' => ∃ g cap, e = .returned (.slice (some ⟨g, 0, none⟩) n cap) ∧ n + 1 ≤ cap ∧ cap ≤ maxLen ∧ base ≤ g ∧
      w'.heap[g]? = some (.cells (xs ++ List.replicate ((cap - n) * 2) nilS).toArray 36 (0, 0)) ∧ Below w.heap.size w w' := by
  obtain ⟨hx, ⟨rfl, rfl⟩ | ⟨g, cap, rfl, hg, hnc, hcm, hh⟩⟩ := hB
  · refine (grow_nil w).mono ?_
    rintro e w' ⟨cap, rfl, h1, h2, rfl⟩
    obtain rfl : xs = [] := List.eq_nil_of_length_eq_zero (by simpa using hx)
    exact ⟨_, cap, rfl, by omega, h2, hbase, heap_alloc_new w.drew _, ((Below.refl _ w).drew).alloc (Nat.le_refl _) _⟩
  · by_cases hf : n < cap
    · refine (grow_room (some ⟨g, 0, none⟩) n cap w hn (by unfold maxLen at hcm; omega) hf).mono ?_
      rintro e w' ⟨rfl, rfl⟩
      exact ⟨g, cap, rfl, by omega, hcm, hg, hh, Below.refl _ _⟩
    · obtain rfl : n = cap := by omega
      refine (grow_full g n xs w hn hx (by simpa using hh)).mono ?_
      rintro e w' ⟨cap', rfl, h1, h2, rfl⟩
      exact ⟨_, cap', rfl, h1, h2, hbase, heap_alloc_new w.drew _, ((Below.refl _ w).drew).alloc (Nat.le_refl _) _⟩
end Go.Proofs.Ybulkclmq
