/-
  A PROOF OF 'Rows.LawS4377BAloneSaid' ('example.com/fixture/fixture.LawS4377BAlone'). The frame was typed after the shells that the kit's program wrote for its sisters; the first argument is opened by 'open_strs'; the walk's proof stands on YbulkclpwAlone, YbulkclpwAloneT, YbulkclpwAloneN.
-/
import Derived.Test.YbulkclpwRows
import Derived.Test.YbulkclpwAloneN
import Derived.Below
import Derived.Carry
import Derived.ChangeOld
import Derived.WalkKit
import Derived.ProofKit
import Derived.OpenShut
import Derived.ShutString
import Derived.Deep.Strs
import Derived.Deep.RegionHeld
namespace Go.Proofs.Ybulkclpw.lawS4377BAlone
open Go.ChangeShapes Go.WideShapes Go.ChangeAt Go.RowKit
set_option linter.unusedVariables false

theorem own : ownKnob Yba.prog.godebug = none := by kernel_rfl
theorem laidOut : laidOutB Yba.prog = true := by kernel_rfl
theorem cells9 : Yba.prog.cellsOf 9 = 1 := by kernel_rfl

/-- What the walk is told of the names that came in. -/
def IsStrs (w : World) (a : Option Addr) (n : Nat) (Sx : Nat → ByteArray) : Prop :=
  n = 0 ∨ ∃ x : Addr, a = some x ∧ ∀ i, i < n → w.cell? (x.add i) = some (.string (Sx i))

theorem strs_at {w : World} {x : Addr} {n : Nat} {Sx : Nat → ByteArray} (h : ∀ i, i < n → w.cell? (x.add i) = some (.string (Sx i))) (hp : 0 < n) :
    ∃ b off, x = ⟨b, off, none⟩ ∧ ∀ j, j < n → w.cell? ⟨b, off + j, none⟩ = some (.string (Sx j)) := by
  obtain ⟨b, off, spot⟩ := x
  have hspot : spot = none := by simpa [Addr.add] using World.cell?_spot (h 0 hp)
  subst hspot
  exact ⟨b, off, rfl, fun j hj => by rw [← Go.WideShapes.add_plain]; exact h j hj⟩

/-! ### THE WALK -/
theorem walk (a : Option Addr) (n cap : Nat) (Sx : Nat → ByteArray) (nb : Bool) (w : World) (h : IsStrs w a n Sx) :
    Calls Yba.prog 3 #[.slice a n cap, .bool nb] w fun e w' => e = .returned (.bool true) ∧ Below w.heap.size w w' := by
  by_cases hl : 1024 < n
  · exact alone_long a n cap nb w hl
  · by_cases h0 : n = 0
    · subst h0
      cases nb
      · exact alone_map_f 0 0 0 cap a Sx w (by omega) (fun h => by omega) (fun h => by omega) (fun j hj => by omega)
      · exact alone_nil a cap w
    · rcases h with h | ⟨x, rfl, hc⟩
      · omega
      · obtain ⟨b, off, rfl, hS⟩ := strs_at hc (by omega)
        have hb : b < w.heap.size := World.block_lt_of_cell? w _ (hS 0 (by omega))
        cases nb
        · exact alone_map_f b off n cap _ Sx w (by omega) (fun _ => rfl) (fun _ => hb) hS
        · exact alone_map_t b off n cap _ Sx w (by omega) (by omega) (fun _ => rfl) (fun _ => hb) hS

/-! ### THE ROW's STEP -/
set_option maxRecDepth 100000 in
theorem lifted (os : Os) (started : os.Started) (H : Type) (enc : TypeId × Value → H) :
    ReturnsInHanded {} Yba.checked os 3 .any (Rows.lawS4377BAloneSpec.pre6 enc Yba.prog Yba.f3 Rows.lawS4377BAloneRow.domain false) (Rows.lawS4377BAloneSpec.post enc Yba.prog Yba.f3 false true false false) := by
  refine returnsInHanded_of_change (C := Yba.checked) own started (by kernel_rfl) Yba.func3
    (ChangeSpec.witness6 (enc := enc) (C := Yba.checked) false ⟨#[], #[.slice none 0 0, .bool false], []⟩ 8 (by kernel_rfl) (by kernel_rfl) (by kernel_rfl) (by kernel_rfl)) ?_
  intro W base args ds gs before hval0 hW hcnd _
  have hval : ∀ (j : Nat) t v, Yba.f3.params[j]? = some t → args[j]? = some v → Value.okWide Yba.prog W .any base t v := hval0
  have hW' := hW
  obtain ⟨p, q, hA0, hV, rfl, hfz, hnd⟩ := hW
  have hA : DataW.TrodAll enc Yba.prog W 0 (fun _ => true) true Yba.f3.params.toList args.toList ds p := hA0
  rw [Yba.params3] at hA hval
  obtain ⟨v0, vs0, d0, ds0, p0, q0, hargs, rfl, rfl, h0, r0⟩ := trodAll_cons hA
  obtain ⟨v1, vs1, d1, ds1, p1, q1, rfl, rfl, rfl, h1, r1⟩ := trodAll_cons r0
  obtain ⟨rfl, rfl, rfl⟩ := trodAll_nil r1
  obtain rfl : args = #[v0, v1] := by cases args; simp_all
  obtain ⟨rfl, rfl⟩ := trodVars_none hV
  obtain ⟨a0, len0, cap0, rfl⟩ := okWide_slice Yba.underlying22 (hval 0 22 v0 rfl rfl)
  have k0 := h0
  have lt0 : ∀ x ∈ p0, x.block < W.heap.size := by obtain ⟨m, hm⟩ := k0; exact DataW.trod_lt m _ _ _ hm
  obtain ⟨Sx, w0⟩ : ∃ Sx, IsStrs W a0 len0 Sx := by
    obtain ⟨fuel, hf⟩ := h0
    rcases Go.Deep.open_strs Yba.underlying22 Yba.underlying9 cells9 hf with ⟨hcs, _⟩ | ⟨x, l, c, m, Sx, hcs, _, hl, hm, hmm, _, hcell⟩
    · simp [Value.cells] at hcs
      obtain ⟨rfl, rfl, rfl⟩ := hcs
      exact ⟨fun _ => ByteArray.empty, .inl rfl⟩
    · simp [Value.cells] at hcs
      obtain ⟨rfl, rfl, rfl⟩ := hcs
      have hm2 : m = cap0 := by simpa using hmm
      exact ⟨Sx, .inr ⟨_, rfl, fun i hi => (hcell i (by omega)).1⟩⟩
  obtain ⟨a1, rfl, rfl, rfl⟩ := open_bool Yba.underlying4 (hval 1 4 v1 rfl rfl) h1
  clear hA0 hval0
  refine (walk a0 len0 cap0 Sx a1 W w0).mono fun e W' ⟨he, bel⟩ => ?_
  subst he
  exact ⟨_, rfl, _, _, _, [], _, [], hW', trodAll_mk1 (shut_bool Yba.underlying4 _), (trodAll_cons_mk (Below.trod laidOut (by kernel_rfl) (of_decide_eq_true (by kernel_rfl)) k0 bel lt0) (trodAll_cons_mk (shut_bool Yba.underlying4 _) trodAll_mk0)), rfl, bel.frame _, fun h => by cases h⟩

theorem over : Rows.lawS4377BAloneRow.holds Yba.pinned (OpenSpec.ofChange Rows.lawS4377BAloneSpec) :=
  OpenClaim.holds_of_wide 3 Yba.f3 rfl rfl rfl rfl rfl rfl rfl ⟨rfl, rfl, rfl, rfl, rfl⟩ rfl rfl rfl rfl rfl (by kernel_rfl) Yba.func3 (by kernel_rfl)
    (of_decide_eq_true (by kernel_rfl)) (by unfold Func.isWrapper; first | (rw [if_pos (by decide +kernel)]; kernel_rfl) | (rw [if_neg (by decide +kernel)]; exact ⟨rfl, rfl⟩))
    (fun os started H enc _ => lifted os started H enc)

/-- ████ THE STATEMENT ████ -/
theorem proved : Rows.LawS4377BAloneSaid := over
#print axioms proved
end Go.Proofs.Ybulkclpw.lawS4377BAlone
