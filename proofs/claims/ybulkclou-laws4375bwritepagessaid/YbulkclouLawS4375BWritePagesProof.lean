/-
  A PROOF OF 'Rows.LawS4375BWritePagesSaid' (repeats.LawS4375BWritePages). The frame was typed after the shells that the kit's program wrote for its sisters; the chunks are opened by 'open_slice1' and 'open_ints'; the form's own reach bounds each chunk's length; the walk's proof stands on YbulkclouPg8.
-/
import Derived.Test.YbulkclouRows
import Derived.Test.YbulkclouPg8
import Derived.WalkKit
import Derived.ProofKit
import Derived.OpenShut
import Derived.ChangeOld
import Derived.Below
import Derived.Carry
import Derived.SizedLaws
import Derived.Deep.Slices
import Derived.Deep.RegionHeld
namespace Go.Proofs.Ybulkclou.lawS4375BWritePages
open Go.ChangeShapes Go.WideShapes Go.ChangeAt Go.RowKit Go.Proofs.Ybulkclou.Pg
set_option linter.unusedVariables false

theorem own : ownKnob Yba.prog.godebug = none := by kernel_rfl
theorem laidOut : laidOutB Yba.prog = true := by kernel_rfl
theorem cells33 : Yba.prog.cellsOf 33 = 1 := by kernel_rfl
theorem cells5 : Yba.prog.cellsOf 5 = 1 := by kernel_rfl
theorem cells2 : Yba.prog.cellsOf 2 = 1 := by kernel_rfl
theorem bytes5 : Yba.prog.bytesOf 5 = 1 := by kernel_rfl

/-- What the walk is told of the free list that came in. -/
def IsFree (w : World) (a : Option Addr) (len cap : Nat) (zs : List Int) : Prop :=
  (a = none ∧ len = 0 ∧ cap = 0 ∧ zs = []) ∨
  ∃ x, a = some x ∧ len ≤ cap ∧ cap ≤ maxLen ∧ zs.length = len ∧ ∀ i, i < len → w.cell? (x.add i) = some (.int .i64 (zs.getD i 0))

/-- What the walk is told of the chunks that came in. -/
def IsChunks (w : World) (ca : Option Addr) (n : Nat) (V : Nat → Value) (X : Nat → List Int) : Prop :=
  (n = 0 ∨ ∃ x : Addr, ca = some x ∧ ∀ i, i < n → w.cell? (x.add i) = some (V i)) ∧ ∀ i, i < n → IsBytes w (V i) (X i) ∧ (X i).length ≤ 140737488351232

theorem walk (pg : Int) (ca : Option Addr) (n cc : Nat) (V : Nat → Value) (X : Nat → List Int) (fa : Option Addr) (L fc : Nat) (zs : List Int) (en fi : Int) (w : World)
    (w0 : (Lit.int .u8 pg).wf = true) (w1 : IsChunks w ca n V X) (w2 : IsFree w fa L fc zs) (w3 : (Lit.int .i64 en).wf = true) (w4 : (Lit.int .u8 fi).wf = true) :
    Calls Yba.prog 4 #[.int .u8 pg, .slice ca n cc, .slice fa L fc, .int .i64 en, .int .u8 fi] w fun e w' => e = .returned (.bool true) ∧ Below w.heap.size w w' := by
  have b0 := bounds_u8 w0
  have b3 := bounds_i64 w3
  have b4 := bounds_u8 w4
  by_cases hl : 256 < n ∨ 256 < L
  · exact wp_long pg en fi ca fa n cc L fc w hl
  · obtain ⟨cb, co, hca, hcb, hV⟩ : ∃ cb co, (0 < n → ca = some ⟨cb, co, none⟩) ∧ (0 < n → cb < w.heap.size) ∧ ∀ j, j < n → w.cell? ⟨cb, co + j, none⟩ = some (V j) := by
      rcases w1.1 with h0 | ⟨x, rfl, hx⟩
      · exact ⟨0, 0, fun h => absurd h (by omega), fun h => absurd h (by omega), fun j hj => absurd hj (by omega)⟩
      · by_cases hn : 0 < n
        · obtain ⟨b, off, spot⟩ := x
          have hspot : spot = none := by simpa [Addr.add] using World.cell?_spot (hx 0 hn)
          subst hspot
          have hx2 : ∀ j, j < n → w.cell? ⟨b, off + j, none⟩ = some (V j) := fun j hj => by rw [← Go.WideShapes.add_plain]; exact hx j hj
          exact ⟨b, off, fun _ => rfl, fun _ => World.block_lt_of_cell? w _ (hx2 0 hn), hx2⟩
        · exact ⟨0, 0, fun h => absurd h hn, fun h => absurd h hn, fun j hj => absurd hj (by omega)⟩
    obtain ⟨P, hP⟩ := Int.eq_ofNat_of_zero_le (a := 1 + pg % 16) (by omega)
    obtain ⟨F, hF⟩ := Int.eq_ofNat_of_zero_le (a := fi % 8) (by omega)
    refine wp_main pg en fi ca fa n cc L fc cb co V X zs P F w (by omega) (by omega) hca hcb (fun j hj => ⟨hV j hj, (w1.2 j hj).1⟩) (fun j hj => (w1.2 j hj).2) ?_ ?_ (by omega) (by omega) (by omega) hP hF
    · rcases w2 with ⟨_, h2, _, h4⟩ | ⟨x, _, _, _, h4, _⟩
      · rw [h4, h2]; rfl
      · exact h4
    · rcases w2 with ⟨h1, h2, h3, h4⟩ | ⟨x, h1, h2, h3, h4, h5⟩
      · exact .inl ⟨h1, h2, h3⟩
      · refine .inr ⟨x, h1, h2, by unfold maxLen at h3; omega, fun hp => ?_, fun j u hu => ?_⟩
        · have := World.block_lt_of_cell? w _ (h5 0 hp)
          simpa [Addr.add] using this
        · have hj : j < zs.length := by
            have := (List.getElem?_eq_some_iff.1 hu).1
            simpa using this
          rw [h5 j (by omega)]
          simpa [hj] using hu

theorem weightsAll_mem {H : Type} {P : Program} {e : TypeId} : ∀ {l : List (DataW H)} {d : DataW H}, d ∈ l → ∀ k ∈ d.weights P e, k ∈ DataW.weightsAll P e l
  | d0 :: r, d, hd, k, hk => by
    simp only [DataW.weightsAll, List.mem_append]
    rcases List.mem_cons.1 hd with rfl | h
    · exact .inl hk
    · exact .inr (weightsAll_mem h k hk)

/-! ### THE ROW's STEP -/
set_option maxRecDepth 100000 in
theorem lifted (os : Os) (started : os.Started) (H : Type) (enc : TypeId × Value → H) :
    ReturnsInHanded {} Yba.checked os 4 .any (Rows.lawS4375BWritePagesSpec.pre6 enc Yba.prog Yba.f4 Rows.lawS4375BWritePagesRow.domain false) (Rows.lawS4375BWritePagesSpec.post enc Yba.prog Yba.f4 false true false false) := by
  refine returnsInHanded_of_change_sized (C := Yba.checked) own started (by kernel_rfl) Yba.func4
    (ChangeSpec.witness6 (enc := enc) (C := Yba.checked) false ⟨#[], #[.int .u8 0, .slice none 0 0, .slice none 0 0, .int .i64 0, .int .u8 0], []⟩ 8 (by kernel_rfl) (by kernel_rfl) (by kernel_rfl) (by kernel_rfl)) ?_
  intro W base args ds gs before hval0 hW hcnd hsz0 _
  have hval : ∀ (j : Nat) t v, Yba.f4.params[j]? = some t → args[j]? = some v → Value.okWide Yba.prog W .any base t v := hval0
  have hsz : (DataW.weightsEach Yba.prog (Yba.f4.params.toList ++ Rows.lawS4375BWritePagesSpec.plain.varTypes Yba.prog) (ds ++ gs)).all (· ≤ reachBytes) = true := hsz0
  have hW' := hW
  obtain ⟨p, q, hA0, hV, rfl, hfz, hnd⟩ := hW
  have hA : DataW.TrodAll enc Yba.prog W 0 (fun _ => true) true Yba.f4.params.toList args.toList ds p := hA0
  rw [Yba.params4] at hA hval hsz
  obtain ⟨v0, vs0, d0, ds0, p0, q0, hargs, rfl, rfl, h0, r0⟩ := trodAll_cons hA
  obtain ⟨v1, vs1, d1, ds1, p1, q1, rfl, rfl, rfl, h1, r1⟩ := trodAll_cons r0
  obtain ⟨v2, vs2, d2, ds2, p2, q2, rfl, rfl, rfl, h2, r2⟩ := trodAll_cons r1
  obtain ⟨v3, vs3, d3, ds3, p3, q3, rfl, rfl, rfl, h3, r3⟩ := trodAll_cons r2
  obtain ⟨v4, vs4, d4, ds4, p4, q4, rfl, rfl, rfl, h4, r4⟩ := trodAll_cons r3
  obtain ⟨rfl, rfl, rfl⟩ := trodAll_nil r4
  obtain rfl : args = #[v0, v1, v2, v3, v4] := by cases args; simp_all
  obtain ⟨rfl, rfl⟩ := trodVars_none hV
  obtain ⟨a0, rfl, rfl, rfl, w0⟩ := open_int Yba.underlying5 (hval 0 5 v0 rfl rfl) h0
  obtain ⟨ca, n, cc, rfl⟩ := okWide_slice Yba.underlying47 (hval 1 47 v1 rfl rfl)
  have k1 := h1
  have lt1 : ∀ x ∈ p1, x.block < W.heap.size := by obtain ⟨m, hm⟩ := k1; exact DataW.trod_lt m _ _ _ hm
  obtain ⟨V, X, w1⟩ : ∃ V X, IsChunks W ca n V X := by
    obtain ⟨fuel, hf⟩ := h1
    rcases Go.Deep.open_slice1 Yba.underlying47 cells33 hf with ⟨hcs, _⟩ | ⟨x, l, c, m, fu, V, D, Pl, hcs, _, hl, hm, hmm, hx, hcell⟩
    · simp [Value.cells] at hcs
      obtain ⟨rfl, rfl, rfl⟩ := hcs
      exact ⟨fun _ => .nilIface, fun _ => [], .inl rfl, fun i hi => absurd hi (by omega)⟩
    · simp [Value.cells] at hcs
      obtain ⟨rfl, rfl, rfl⟩ := hcs
      have hm2 : m = cc := by simpa using hmm
      have hd1 : d1 = .slice ((List.range n).map D) ((List.range (m - n)).map fun j => D (n + j)) := by
        have := congrArg Prod.fst hx
        simpa using this
      have each : ∀ i, i < n → ∃ xs : List Int, IsBytes W (V i) xs ∧ xs.length ≤ 140737488351232 := fun i hi => by
        obtain ⟨_, ht⟩ := hcell i (by omega)
        rcases open_ints Yba.underlying33 Yba.underlying5 cells5 ht with ⟨hc2, _⟩ | ⟨y, l2, c2, zs, hc2, _, hl2, hm3, hz, hdat, hcl, hwz⟩
        · simp at hc2
          exact ⟨[], ⟨none, 0, hc2, Nat.le_refl _, by omega, fun h => absurd h (by simp)⟩, by simp⟩
        · simp at hc2
          have hz2 : zs.length = c2 := by simpa using hz
          have hln : (zs.take l2).length = l2 := by simp; omega
          have hwt : (l2 + (c2 - l2)) * Yba.prog.bytesOf 5 ≤ reachBytes := by
            have hDi : D i = .slice (lits .u8 (zs.take l2)) (lits .u8 (zs.drop l2)) := by
              have := congrArg Prod.fst hdat
              simpa using this
            have hmem : (l2 + (c2 - l2)) * Yba.prog.bytesOf 5 ∈ (D i).weights Yba.prog 33 := by
              rw [hDi]
              simp only [DataW.weights, Yba.underlying33, lits, List.length_map, List.length_take, List.length_drop, List.mem_cons]
              left
              rw [hz2, Nat.min_eq_left hl2]
            have hmem2 : (l2 + (c2 - l2)) * Yba.prog.bytesOf 5 ∈ d1.weights Yba.prog 47 := by
              rw [hd1]
              simp only [DataW.weights, Yba.underlying47, List.mem_cons, List.mem_append]
              exact .inr (.inl (weightsAll_mem (List.mem_map.2 ⟨i, List.mem_range.2 hi, rfl⟩) _ hmem))
            have hall := List.all_eq_true.1 hsz _ (DataW.weights_mem_each (j := 1) (t := 47) (d := d1) rfl rfl _ hmem2)
            simpa using hall
          rw [bytes5] at hwt
          unfold reachBytes at hwt
          refine ⟨zs.take l2, ⟨some y, c2, by rw [hln]; exact hc2, by rw [hln]; exact hl2, by unfold maxLen at hm3; omega, fun hp => ?_⟩, by rw [hln]; omega⟩
          rw [hln] at hp
          obtain ⟨b, off, rfl, hc⟩ := ints_at hcl (by omega)
          refine ⟨b, off, rfl, ?_, fun t ht => ?_⟩
          · exact World.block_lt_of_cell? W _ (hc 0 (by omega))
          · rw [hln] at ht
            rw [hc t (by omega)]
            congr 2
            simp [List.getD_eq_getElem?_getD, ht]
      obtain ⟨X, hX⟩ := Go.Deep.choose_lt each
      exact ⟨V, X, .inr ⟨x, rfl, fun i hi => (hcell i (by omega)).1⟩, hX⟩
  obtain ⟨fa, L, fc, rfl⟩ := okWide_slice Yba.underlying48 (hval 2 48 v2 rfl rfl)
  have k2 := h2
  have lt2 : ∀ x ∈ p2, x.block < W.heap.size := by obtain ⟨m, hm⟩ := k2; exact DataW.trod_lt m _ _ _ hm
  obtain ⟨zs, w2⟩ : ∃ zs, IsFree W fa L fc zs := by
    obtain ⟨fuel, hf⟩ := h2
    rcases open_ints Yba.underlying48 Yba.underlying2 cells2 hf with ⟨hcs, _⟩ | ⟨x, l, c, zs, hcs, _, hl, hm, hz, _, hcell, hwz⟩
    · simp [Value.cells] at hcs
      obtain ⟨rfl, rfl, rfl⟩ := hcs
      exact ⟨[], .inl ⟨rfl, rfl, rfl, rfl⟩⟩
    · simp [Value.cells] at hcs
      obtain ⟨rfl, rfl, rfl⟩ := hcs
      have hz2 : zs.length = fc := by simpa using hz
      refine ⟨zs.take L, .inr ⟨_, rfl, hl, hm, by simp; omega, fun i hi => ?_⟩⟩
      rw [hcell i (by omega)]
      congr 2
      simp [List.getD_eq_getElem?_getD, hi]
  obtain ⟨a3, rfl, rfl, rfl, w3⟩ := open_int Yba.underlying2 (hval 3 2 v3 rfl rfl) h3
  obtain ⟨a4, rfl, rfl, rfl, w4⟩ := open_int Yba.underlying5 (hval 4 5 v4 rfl rfl) h4
  clear hA0 hval0
  refine (walk a0 ca n cc V X fa L fc zs a3 a4 W w0 w1 w2 w3 w4).mono fun e W' ⟨he, bel⟩ => ?_
  subst he
  exact ⟨_, rfl, _, _, _, [], _, [], hW', trodAll_mk1 (shut_bool Yba.underlying4 _), (trodAll_cons_mk (shut_int Yba.underlying5 w0) (trodAll_cons_mk (Below.trod laidOut (by kernel_rfl) (of_decide_eq_true (by kernel_rfl)) k1 bel lt1) (trodAll_cons_mk (Below.trod laidOut (by kernel_rfl) (of_decide_eq_true (by kernel_rfl)) k2 bel lt2) (trodAll_cons_mk (shut_int Yba.underlying2 w3) (trodAll_cons_mk (shut_int Yba.underlying5 w4) trodAll_mk0))))), rfl, bel.frame _, fun h => by cases h⟩

theorem over : Rows.lawS4375BWritePagesRow.holds Yba.pinned (OpenSpec.ofChange Rows.lawS4375BWritePagesSpec) :=
  OpenClaim.holds_of_wide 4 Yba.f4 rfl rfl rfl rfl rfl rfl rfl ⟨rfl, rfl, rfl, rfl, rfl⟩ rfl rfl rfl rfl rfl (by kernel_rfl) Yba.func4 (by kernel_rfl)
    (of_decide_eq_true (by kernel_rfl)) (by unfold Func.isWrapper; first | (rw [if_pos (by decide +kernel)]; kernel_rfl) | (rw [if_neg (by decide +kernel)]; exact ⟨rfl, rfl⟩))
    (fun os started H enc _ => lifted os started H enc)

/-- ████ THE STATEMENT ████ -/
theorem proved : Rows.LawS4375BWritePagesSaid := over
#print axioms proved
end Go.Proofs.Ybulkclou.lawS4375BWritePages
