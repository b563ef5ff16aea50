import Derived.Test.YbulkclouRows
import Derived.Test.YbulkclouParts
import Derived.WalkKit
import Derived.WalkSmall
import Derived.WalkLawsBesides
namespace Go.Proofs.Ybulkclou
open Go.RowKit
set_option linter.unusedVariables false

abbrev nilS : Value := .slice none 0 0

set_option maxHeartbeats 400000 in
theorem next_err (c t : Nat) (es : Value) (w : World) (ht : t ≤ 100000) (h : w.heap[c]? = some (.cells #[es, .int .i64 t, .int .i64 t] 32 (0, 0))) :
    Calls Yba.prog 37 #[.pointer (some ⟨c, 0, none⟩)] w fun e w' => e = .returned (.tuple #[.agg #[.slice none 0 0, .int .i64 0, .slice none 0 0], .bool false, .iface 75 (.pointer (some ⟨w.heap.size + 1, 0, none⟩))]) ∧
      w'.heap[c]? = some (.cells #[es, .int .i64 t, .int .i64 (t + 1)] 32 (0, 0)) ∧ w.grownBy w' (some c) := by
  have h0 := three_cell0 h
  have h1 := three_cell1 h
  have h2 := three_cell2 h
  have f2 : w.frozen? ⟨c, 2, none⟩ = false := three_free h
  have hl := lt_of_block h
  have H : Hid _ := h
  clear h
  go_enter Yba.func37, Yba.ntmps37
  go_wp2
  exact bodyPost_ret (v := .tuple #[.agg #[.slice none 0 0, .int .i64 0, .slice none 0 0], .bool false, .iface 75 (.pointer (some ⟨w.heap.size + 1, 0, none⟩))]) (by simp [results, Yba.results37, go_sem]) rfl
    ⟨rfl, hp_alloc (hp_alloc (three_set2 H.out _)), gb_alloc (gb_alloc (gb_set (gb_refl _ _) _))⟩

set_option maxHeartbeats 400000 in
theorem next_end (c t L cap : Nat) (ea : Int) (a : Option Addr) (w : World) (ht : t ≤ 100000) (hea : ((t : Int) == ea) = false) (hL : L ≤ t)
    (h : w.heap[c]? = some (.cells #[.slice a L cap, .int .i64 ea, .int .i64 t] 32 (0, 0))) :
    Calls Yba.prog 37 #[.pointer (some ⟨c, 0, none⟩)] w fun e w' => e = .returned (.tuple #[.agg #[.slice none 0 0, .int .i64 0, .slice none 0 0], .bool false, .nilIface]) ∧
      w'.heap[c]? = some (.cells #[.slice a L cap, .int .i64 ea, .int .i64 (t + 1)] 32 (0, 0)) ∧ w.grownBy w' (some c) := by
  have h0 := three_cell0 h
  have h1 := three_cell1 h
  have h2 := three_cell2 h
  have f2 : w.frozen? ⟨c, 2, none⟩ = false := three_free h
  have hl := lt_of_block h
  have H : Hid _ := h
  clear h
  go_enter Yba.func37, Yba.ntmps37
  go_wp2
  exact bodyPost_ret (v := .tuple #[.agg #[.slice none 0 0, .int .i64 0, .slice none 0 0], .bool false, .nilIface]) (by simp [results, Yba.results37, go_sem]) rfl
    ⟨rfl, hp_alloc (three_set2 H.out _), gb_alloc (gb_set (gb_refl _ _) _)⟩

set_option maxHeartbeats 400000 in
theorem next_ok (c t L cap g : Nat) (ea : Int) (x0 x1 x2 : Value) (w : World) (ht : t ≤ 100000) (hea : ((t : Int) == ea) = false) (hL : t < L)
    (h : w.heap[c]? = some (.cells #[.slice (some ⟨g, 0, none⟩) L cap, .int .i64 ea, .int .i64 t] 32 (0, 0)))
    (hgc : g ≠ c) (hg : g < w.heap.size) (e0 : w.cell? ⟨g, t * 3, none⟩ = some x0) (e1 : w.cell? ⟨g, t * 3 + 1, none⟩ = some x1) (e2 : w.cell? ⟨g, t * 3 + 2, none⟩ = some x2) 
    (y0 : ∃ a n k, x0 = .slice a n k) (y1 : ∃ l, x1 = .int .i64 l) (y2 : ∃ a n k, x2 = .slice a n k) :
    Calls Yba.prog 37 #[.pointer (some ⟨c, 0, none⟩)] w fun e w' => e = .returned (.tuple #[.agg #[x0, x1, x2], .bool true, .nilIface]) ∧
      w'.heap[c]? = some (.cells #[.slice (some ⟨g, 0, none⟩) L cap, .int .i64 ea, .int .i64 (t + 1)] 32 (0, 0)) ∧ w.grownBy w' (some c) := by
  obtain ⟨a0, n0, k0, rfl⟩ := y0
  obtain ⟨l1, rfl⟩ := y1
  obtain ⟨a2, n2, k2, rfl⟩ := y2
  have h0 := three_cell0 h
  have h1 := three_cell1 h
  have h2 := three_cell2 h
  have f2 : w.frozen? ⟨c, 2, none⟩ = false := three_free h
  have hl := lt_of_block h
  have hcg : c ≠ g := Ne.symm hgc
  have H : Hid _ := h
  clear h
  go_enter Yba.func37, Yba.ntmps37
  go_wp2
  exact bodyPost_ret (v := .tuple #[.agg #[.slice a0 n0 k0, .int .i64 l1, .slice a2 n2 k2], .bool true, .nilIface]) (by simp [results, Yba.results37, go_sem]) rfl
    ⟨rfl, hp_alloc (three_set2 H.out _), gb_alloc (gb_set (gb_refl _ _) _)⟩

/-- A call through an interface value whose method's number the program's tables tell: met by the method's contract. -/
theorem upon_method {P : Program} {w : World} {o : Oper} {a : Act} {K : Act → World → Prop} {Q : Exit → Act → World → Prop} {F : Nat} {t : TypeId} {v : Value} {s : String} (f : FuncId) (r : Value) (q : Value → Array Value)
    (hm : Sem.run P (method F t v s) w = .ok (f, r) w) (hf : Sem.run P (callFunc f (q r)) w = .ok (.enter f (q r)) w) (R : Ending → World → Prop) (hc : Calls P f (q r) w R)
    (h : ∀ e w', R e w' → ∃ u, e = .returned u ∧ K (a.put o.dst u) w') : Oper.upon P o a K Q ((Sem.run P (method F t v s) w).andThen fun a w' => Sem.run P (callFunc a.fst (q a.snd)) w') := by
  rw [hm]
  show Oper.upon P o a K Q (Sem.run P (callFunc f (q r)) w)
  rw [hf]
  refine hc.mono fun e w' he => ?_
  obtain ⟨u, rfl, h1⟩ := h e w' he
  exact h1

set_option maxRecDepth 100000 in
/-- advance, whatever next gives: the entry lies in the head's cells behind it; the answer is handed on. -/
theorem adv (MB HB n c i : Nat) (st : Bool) (x0 x1 x2 : Value) (ok : Bool) (er : Value) (fH : Nat → Value) (w : World) (post : World → Prop) (hi : i < n) (hn : n ≤ 100000)
    (hM : w.heap[MB]? = some (.cells #[.slice (some ⟨HB, 0, none⟩) n n, .bool st] 28 (0, 0)))
    (hH : w.rowIs HB 39 (n * 4) fH) (hf : fH (i * 4) = .iface 29 (.pointer (some ⟨c, 0, none⟩))) (hHc : HB ≠ c)
    (y0 : ∃ a n k, x0 = .slice a n k) (y1 : ∃ l, x1 = .int .i64 l) (y2 : ∃ a n k, x2 = .slice a n k)
    (hnx : Calls Yba.prog 37 #[.pointer (some ⟨c, 0, none⟩)] w fun e w' => e = .returned (.tuple #[.agg #[x0, x1, x2], .bool ok, er]) ∧ post w' ∧ w.grownBy w' (some c)) :
    Calls Yba.prog 5 #[.pointer (some ⟨MB, 0, none⟩), .int .i64 i] w fun e w' => e = .returned (.tuple #[.bool ok, er]) ∧
      ∃ w1, post w1 ∧ w.grownBy w1 (some c) ∧ w' = ((w1.setCell ⟨HB, i * 4 + 1, none⟩ x0).setCell ⟨HB, i * 4 + 2, none⟩ x1).setCell ⟨HB, i * 4 + 3, none⟩ x2 := by
  obtain ⟨a0, n0, k0, rfl⟩ := y0
  obtain ⟨l1, rfl⟩ := y1
  obtain ⟨a2, n2, k2, rfl⟩ := y2
  have m0 := two_cell0 hM
  have hc0 : w.cell? ⟨HB, i * 4, none⟩ = some (.iface 29 (.pointer (some ⟨c, 0, none⟩))) := (hH.cell (by omega)).trans (by rw [hf])
  have HN : Hid _ := hnx
  have HR : Hid (w.rowIs HB 39 (n * 4) fH) := hH
  have hlH := hH.lt
  clear hnx hH hM hf
  go_enter Yba.func5, Yba.ntmps5
  go_wp2_with fail
  refine upon_method 37 (.pointer (some ⟨c, 0, none⟩)) (fun r => #[r]) (by kernel_rfl) (by kernel_rfl) _ HN.out ?_
  rintro e w1 ⟨rfl, hp, hg⟩
  refine ⟨_, rfl, ?_⟩
  have HR1 : Hid (w1.rowIs HB 39 (n * 4) fH) := HR.out.of_block (hg.block HB hlH (by simpa using hHc))
  have r1 := HR1.out.cell (i := i * 4 + 1) (by omega)
  have r2 := HR1.out.cell (i := i * 4 + 2) (by omega)
  have r3 := HR1.out.cell (i := i * 4 + 3) (by omega)
  have f1 := HR1.out.frozen (i * 4 + 1)
  have f2 := HR1.out.frozen (i * 4 + 2)
  have f3 := HR1.out.frozen (i * 4 + 3)
  go_wp2
  go_ret2
  exact ⟨rfl, w1, hp, hg, rfl⟩
end Go.Proofs.Ybulkclou
