import Derived.Test.YbulkclpwRows
import Derived.LaidEqlPtr
import Derived.Below
import Derived.Maps.Own
import Derived.Maps.OwnOps
import Derived.Maps.RangeRun
import Derived.WalkKit
namespace Go.Proofs.Ybulkclpw
open Go.RowKit
open Go.ChangeMaps (setBlock heap_setBlock_same heap_setBlock_other)

/-- The j-th test's address, the first of them at block B. -/
def ptr (B j : Nat) : Value := .pointer (some ⟨B + j, 0, none⟩)
def ent (B j : Nat) : MapEntry := ⟨ptr B j, .agg #[], j⟩
/-- The running set's entries: one a test, in the order in which they were laid. -/
def ents (B n : Nat) : List MapEntry := (List.range n).map (ent B)

theorem ents_succ (B n : Nat) : ents B (n + 1) = ents B n ++ [ent B n] := by simp [ents, List.range_succ]

def Laid (w : World) (B n : Nat) : Prop := ∀ j, j < n → ∃ cs, w.heap[B + j]? = some (.cells cs 66 (0, 0))

theorem info66 : (Yba.prog.info? 66).map (fun i => decide (i.size = 0)) = some false := by kernel_rfl

theorem equal_same (w : World) (a : Addr) : (Op.equal 48 (.pointer (some a)) (.pointer (some a))).run Yba.prog w = .ok true w := by
  obtain ⟨i, hi, hz⟩ := Option.map_eq_some_iff.1 info66
  have h : ∀ d : Nat, (Op.equalIn (d + 1) 48 (.pointer (some a)) (.pointer (some a))).run Yba.prog w = .ok true w := fun d => by
    simp [Op.equalIn, run_underlying Yba.underlying48, sizeOf, typeInfo, hi, run_sameAddr_same]
  simp only [Op.equal, Op.maxDepth]
  exact h 9999

theorem equal_other (w : World) {a b : Addr} {ca cb : Array Value} {ta tb : TypeId} (hne : a ≠ b) (ha : w.heap[a.block]? = some (.cells ca ta (0, 0))) (hb : w.heap[b.block]? = some (.cells cb tb (0, 0))) :
    (Op.equal 48 (.pointer (some a)) (.pointer (some b))).run Yba.prog w = .ok false w := by
  obtain ⟨i, hi, hz⟩ := Option.map_eq_some_iff.1 info66
  have hz' : i.size ≠ 0 := by simpa using hz
  have h : ∀ d : Nat, (Op.equalIn (d + 1) 48 (.pointer (some a)) (.pointer (some b))).run Yba.prog w = .ok false w := fun d => by
    simp [Op.equalIn, run_underlying Yba.underlying48, sizeOf, typeInfo, hi, hz', run_sameAddr_other w hne ha hb]
  simp only [Op.equal, Op.maxDepth]
  exact h 9999

theorem asking_none (w : World) (B m : Nat) (hm : ∃ cs, w.heap[B + m]? = some (.cells cs 66 (0, 0))) : ∀ (l : List Nat) (i : Nat), (∀ j ∈ l, j ≠ m ∧ ∃ cs, w.heap[B + j]? = some (.cells cs 66 (0, 0))) →
    (Instr.findAsking 48 (ptr B m) (l.map (ent B)) i).run Yba.prog w = .ok none w
  | [], i, _ => by simp [Instr.findAsking]
  | j :: l, i, h => by
    obtain ⟨hj, cj, hcj⟩ := h j (by simp)
    obtain ⟨cm, hcm⟩ := hm
    have e := equal_other w (a := ⟨B + m, 0, none⟩) (b := ⟨B + j, 0, none⟩) (by simp <;> omega) hcm hcj
    have ih := asking_none w B m ⟨cm, hcm⟩ l (i + 1) (fun x hx => h x (by simp [hx]))
    simp only [List.map_cons, Instr.findAsking, ent, ptr] at ih ⊢
    simp [e, Result.andThen, ih]

theorem asking_hit (w : World) (B m : Nat) (hm : ∃ cs, w.heap[B + m]? = some (.cells cs 66 (0, 0))) : ∀ (l : List Nat) (i : Nat), (∀ j ∈ l, ∃ cs, w.heap[B + j]? = some (.cells cs 66 (0, 0))) → m ∈ l →
    ∃ k, (Instr.findAsking 48 (ptr B m) (l.map (ent B)) i).run Yba.prog w = .ok (some (k, .agg #[])) w
  | [], i, _, h => by simp at h
  | j :: l, i, h, hin => by
    obtain ⟨cj, hcj⟩ := h j (by simp)
    obtain ⟨cm, hcm⟩ := hm
    by_cases hj : j = m
    · subst hj
      have e := equal_same w ⟨B + j, 0, none⟩
      refine ⟨i, ?_⟩
      simp only [List.map_cons, Instr.findAsking, ent, ptr]
      simp [e, Result.andThen]
    · have e := equal_other w (a := ⟨B + m, 0, none⟩) (b := ⟨B + j, 0, none⟩) (by simp <;> omega) hcm hcj
      obtain ⟨k, ih⟩ := asking_hit w B m ⟨cm, hcm⟩ l (i + 1) (fun x hx => h x (by simp [hx])) (by
        rcases List.mem_cons.1 hin with h | h
        · exact absurd h.symm hj
        · exact h)
      refine ⟨k, ?_⟩
      simp only [List.map_cons, Instr.findAsking, ent, ptr] at ih ⊢
      simp [e, Result.andThen, ih]

theorem find_eq (w : World) (B m : Nat) (l : List Nat) (r : Option (Nat × Value)) (h : (Instr.findAsking 48 (ptr B m) (l.map (ent B))).run Yba.prog w = .ok r w) :
    (Instr.findKey 48 (ptr B m) (l.map (ent B))).run Yba.prog w = .ok r w := by
  cases l with
  | nil =>
    simp [Instr.findAsking] at h
    subst h
    simp [Instr.findKey, run_underlying Yba.underlying48, Instr.findNow]
  | cons j l =>
    have : Instr.findNow (.pointer 66) (ptr B m) ((j :: l).map (ent B)) 0 = none := by simp [Instr.findNow, Instr.sameNow, ent, ptr]
    simp only [Instr.findKey, Sem.run_bind, run_underlying Yba.underlying48, Result.andThen, this]
    exact h

theorem check_ptr (w : World) (em : Bool) (v : Value) : (Instr.checkKey em 10000 48 v).run Yba.prog w = .ok () w := by
  have h : ∀ n, (Instr.checkKey em (n + 1) 48 v).run Yba.prog w = .ok () w := fun n => by
    simp [Instr.checkKey, run_underlying Yba.underlying48]
  exact h 9999

theorem store_ptr (w : World) (M B n : Nat) (hM : w.heap[M]? = some (.map (ents B n).toArray n)) (hL : Laid w B (n + 1)) :
    (Instr.mapUpdate 47 (.map (some M)) (ptr B n) (.agg #[])).run Yba.prog w = .ok () (setBlock w M (.map (ents B (n + 1)).toArray (n + 1))) := by
  have hf := find_eq w B n (List.range n) none (asking_none w B n (hL n (by omega)) _ 0 (fun j hj => by
    have := List.mem_range.1 hj
    exact ⟨by omega, hL j (by omega)⟩))
  have hp : (ents B n).toArray.push ⟨ptr B n, .agg #[], n⟩ = (ents B (n + 1)).toArray := by
    rw [ents_succ]
    simp [ent]
  have hf' : (Instr.findKey 48 (ptr B n) (ents B n)).run Yba.prog w = .ok none w := hf
  simp [Instr.mapUpdate, run_underlying Yba.underlying47, MapKept.run_getObj_map hM, check_ptr, hf', MapKept.run_setObj_map _ hM, Result.andThen, setBlock, hp]

theorem look_ptr (w : World) (M B n m : Nat) (hm : m < n) (hM : w.heap[M]? = some (.map (ents B n).toArray n)) (hL : Laid w B n) :
    (Instr.lookup 47 (.map (some M)) (ptr B m) true).run Yba.prog w = .ok (.tuple #[.agg #[], .bool true]) w := by
  obtain ⟨k, hk⟩ := asking_hit w B m (hL m hm) (List.range n) 0 (fun j hj => hL j (List.mem_range.1 hj)) (List.mem_range.2 hm)
  have hf' : (Instr.findKey 48 (ptr B m) (ents B n)).run Yba.prog w = .ok (some (k, .agg #[])) w := find_eq w B m (List.range n) _ hk
  simp [Instr.lookup, run_underlying Yba.underlying47, MapKept.run_getObj_map hM, check_ptr, hf', Result.andThen]
end Go.Proofs.Ybulkclpw
