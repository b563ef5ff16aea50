/- What the law of WritePages has built, as facts on a world. No function of the program is walked here. -/
import Derived.Test.YbulkclouEq
import Derived.Laws.OwnMore
import Derived.Deep.AppendLies
namespace Go.Proofs.Ybulkclou.Pg
open Go.RowKit
set_option linter.unusedVariables false

/-- Blocks of element type T are as they were. -/
def Kp (T : TypeId) (w w' : World) : Prop := ∀ (g : Nat) (cs : Array Value), w.heap[g]? = some (.cells cs T (0, 0)) → w'.heap[g]? = some (.cells cs T (0, 0))
section
variable {T t : TypeId} {w w1 w2 : World} {X i : Nat} {cs : Array Value}
theorem kp_refl : Kp T w w := fun _ _ h => h
theorem kp_trans (h : Kp T w w1) (h2 : Kp T w1 w2) : Kp T w w2 := fun g cs hg => h2 g cs (h g cs hg)
theorem kp_below (hb : Below w.heap.size w w1) : Kp T w w1 := fun g cs h => hp_below hb h
theorem kp_alloc {o : Obj} : Kp T w (w.alloc o) := fun g cs h => hp_alloc h
theorem kp_drew : Kp T w w.drew := fun g cs h => h
theorem kp_set (hX : w.heap[X]? = some (.cells cs t (0, 0))) (hne : t ≠ T) (v : Value) : Kp T w (w.setCell ⟨X, i, none⟩ v) := fun g cs' h => hp_setOther h (by intro e; simp at e; subst e; rw [hX] at h; simp at h; exact hne h.2) v
theorem kp_own {b e n : Nat} {v : Value} {xs : List Value} (h : w.ownsRow b e 1 v n xs) (hg : w.grownBy w1 v.ownBlock) (hne : e ≠ T) : Kp T w w1 := fun g cs' hh => by
  refine hp_grown hg ?_ hh
  intro e0
  rcases h.2 with ⟨rfl, _⟩ | ⟨g', cap', cur', rfl, _, hg', _⟩
  · simp [Value.ownBlock] at e0
  · simp [Value.ownBlock] at e0
    subst e0
    rw [hg'] at hh
    simp at hh
    exact hne hh.2
theorem ow_kp {b e s n : Nat} {v : Value} {xs : List Value} (h : w.ownsRow b e s v n xs) (hk : Kp e w w1) : w1.ownsRow b e s v n xs := by
  refine ⟨h.1, ?_⟩
  rcases h.2 with h' | ⟨g, cap, cur, h1, h2, h3, h4⟩
  · exact .inl h'
  · exact .inr ⟨g, cap, cur, h1, h2, hk g _ h3, h4⟩
end

abbrev by8 (xs : List Int) : List Value := xs.map (Value.int .u8)
abbrev i6 (xs : List Int) : List Value := xs.map (Value.int .i64)

/-- Two slices lie in blocks apart. -/
def Ap (a b : Value) : Prop := a.ownBlock = none ∨ a.ownBlock ≠ b.ownBlock
theorem Ap.symm {a b : Value} (h : Ap a b) : Ap b a := by
  unfold Ap at *
  cases hb : b.ownBlock with
  | none => exact .inl rfl
  | some k =>
    right
    rcases h with h | h
    · rw [h]; simp
    · rw [hb] at h; exact Ne.symm h
theorem Ap.new {v u : Value} {g n cap H : Nat} (hat : v.ownBlock = some g ∨ g = H) (h : Ap v u) (hlt : ∀ k, u.ownBlock = some k → k < H) : Ap (.slice (some ⟨g, 0, none⟩) n cap) u := by
  right
  intro e0
  simp only [Value.ownBlock] at e0
  rcases hat with h1 | h1
  · rcases h with h' | h'
    · rw [h'] at h1; cases h1
    · exact h' (by rw [h1]; exact e0)
  · have := hlt g e0.symm; omega
theorem Ap.keep {w w1 : World} {a u : Value} {b e n : Nat} {xs : List Value} (h : Ap a u) (hg : w.grownBy w1 u.ownBlock) (ho : w.ownsRow b e 1 a n xs) : w1.ownsRow b e 1 a n xs := ho.kept hg h

structure Cx where
  W : World
  base : Nat
  SB : Nat
  FB : Nat
  WB : Nat
  BB : Nat
  EB : Nat
  P : Nat
  F : Nat
  L : Nat
  fcap : Nat
  fa : Option Addr
  frs : List Int

/-- The Finder's cells. -/
def FC (P SB : Nat) (en : Int) (vf : Value) : Array Value :=
  #[.int .i64 0, .int .i64 0, .nilFunc, .int .i64 0, .int .i64 0, .int .i64 P, .int .i64 0, .int .i64 0, nilS, nilS, .iface 50 (.pointer (some ⟨SB, 0, none⟩)), .int .i64 en, vf, nilS, .int .i64 0, .nilIface]

structure SI (c : Cx) (vo vd vp : Value) (dv : List Value) (os : List Int) (pgs : List (List Int)) (bs ps : List Int) (sz : Int) (er : Value) (fl : Nat) (en : Int) (vD : Value) (xD : List Int) (w : World) : Prop where
  bel : Below c.base c.W w
  le : c.base ≤ w.heap.size
  bS : c.base ≤ c.SB
  bF : c.base ≤ c.FB
  bW : c.base ≤ c.WB
  bB : c.base ≤ c.BB
  stub : w.heap[c.SB]? = some (.cells #[vo, vd, .int .i64 c.F, .iface 75 (.pointer (some ⟨c.EB, 0, none⟩))] 53 (0, 0))
  find : w.heap[c.FB]? = some (.cells (FC c.P c.SB en (.slice c.fa fl c.fcap)) 61 (0, 0))
  wr : w.heap[c.WB]? = some (.cells #[.pointer (some ⟨c.FB, 0, none⟩), .slice (some ⟨c.BB, 0, none⟩) bs.length c.P, vp, .int .i64 sz, er] 69 (0, 0))
  ob : w.ownsRow c.base 5 1 (.slice (some ⟨c.BB, 0, none⟩) bs.length c.P) bs.length (by8 bs)
  oo : w.ownsRow c.base 2 1 vo os.length (i6 os)
  od : w.ownsRow c.base 33 1 vd pgs.length dv
  pg : ∀ (j : Nat) (p : List Int), pgs[j]? = some p → ∃ g cp : Nat, dv[j]? = some (Value.slice (some ⟨g, 0, none⟩) p.length cp) ∧ g ≠ c.BB ∧ vD.ownBlock ≠ some g ∧ w.ownsRow c.base 5 1 (.slice (some ⟨g, 0, none⟩) p.length cp) p.length (by8 p)
  op : w.ownsRow c.base 2 1 vp ps.length (i6 ps)
  of : w.ownsRow c.base 2 1 (.slice c.fa c.L c.fcap) c.L (i6 c.frs)
  oD : w.ownsRow c.base 5 1 vD xD.length (by8 xD)
  n1 : Ap vo vp
  n2 : Ap vo (.slice c.fa c.L c.fcap)
  n3 : Ap vp (.slice c.fa c.L c.fcap)
  n5 : vD.ownBlock ≠ some c.BB

section
variable {c : Cx} {vo vd vp : Value} {dv : List Value} {os : List Int} {pgs : List (List Int)} {bs ps : List Int} {sz : Int} {er : Value} {fl : Nat} {en : Int} {vD : Value} {xD : List Int} {w w1 : World}

theorem SI.keep (h : SI c vo vd vp dv os pgs bs ps sz er fl en vD xD w) (hb : Below c.base c.W w1) (hl : c.base ≤ w1.heap.size) (k : ∀ T, Kp T w w1) : SI c vo vd vp dv os pgs bs ps sz er fl en vD xD w1 where
  bel := hb
  le := hl
  bS := h.bS
  bF := h.bF
  bW := h.bW
  bB := h.bB
  stub := k _ _ _ h.stub
  find := k _ _ _ h.find
  wr := k _ _ _ h.wr
  ob := ow_kp h.ob (k _)
  oo := ow_kp h.oo (k _)
  od := ow_kp h.od (k _)
  pg := fun j p hp => by
    obtain ⟨g, cp, a1, a2, a3, a4⟩ := h.pg j p hp
    exact ⟨g, cp, a1, a2, a3, ow_kp a4 (k _)⟩
  op := ow_kp h.op (k _)
  of := ow_kp h.of (k _)
  oD := ow_kp h.oD (k _)
  n1 := h.n1
  n2 := h.n2
  n3 := h.n3
  n5 := h.n5

theorem SI.drew (h : SI c vo vd vp dv os pgs bs ps sz er fl en vD xD w) : SI c vo vd vp dv os pgs bs ps sz er fl en vD xD w.drew := h.keep h.bel.drew h.le (fun _ => kp_drew)
theorem SI.alloc (h : SI c vo vd vp dv os pgs bs ps sz er fl en vD xD w) (o : Obj) : SI c vo vd vp dv os pgs bs ps sz er fl en vD xD (w.alloc o) := h.keep (h.bel.alloc h.le _) (by have := h.le; simp; omega) (fun _ => kp_alloc)
theorem SI.below (h : SI c vo vd vp dv os pgs bs ps sz er fl en vD xD w) (hb : Below w.heap.size w w1) : SI c vo vd vp dv os pgs bs ps sz er fl en vD xD w1 :=
  h.keep (h.bel.trans (hb.mono h.le)) (Nat.le_trans h.le hb.size) (fun _ => kp_below hb)

theorem four_set0 {X : Nat} {a b d e : Value} {t : TypeId} (h : w.heap[X]? = some (.cells #[a, b, d, e] t (0, 0))) (u : Value) : (w.setCell ⟨X, 0, none⟩ u).heap[X]? = some (.cells #[u, b, d, e] t (0, 0)) := by
  have := heap_setCell_same w X 0 _ _ u h; simpa using this
theorem four_set1 {X : Nat} {a b d e : Value} {t : TypeId} (h : w.heap[X]? = some (.cells #[a, b, d, e] t (0, 0))) (u : Value) : (w.setCell ⟨X, 1, none⟩ u).heap[X]? = some (.cells #[a, u, d, e] t (0, 0)) := by
  have := heap_setCell_same w X 1 _ _ u h; simpa using this
theorem five_set1 {X : Nat} {a b d e f : Value} {t : TypeId} (h : w.heap[X]? = some (.cells #[a, b, d, e, f] t (0, 0))) (u : Value) : (w.setCell ⟨X, 1, none⟩ u).heap[X]? = some (.cells #[a, u, d, e, f] t (0, 0)) := by
  have := heap_setCell_same w X 1 _ _ u h; simpa using this
theorem five_set2 {X : Nat} {a b d e f : Value} {t : TypeId} (h : w.heap[X]? = some (.cells #[a, b, d, e, f] t (0, 0))) (u : Value) : (w.setCell ⟨X, 2, none⟩ u).heap[X]? = some (.cells #[a, b, u, e, f] t (0, 0)) := by
  have := heap_setCell_same w X 2 _ _ u h; simpa using this
theorem five_set3 {X : Nat} {a b d e f : Value} {t : TypeId} (h : w.heap[X]? = some (.cells #[a, b, d, e, f] t (0, 0))) (u : Value) : (w.setCell ⟨X, 3, none⟩ u).heap[X]? = some (.cells #[a, b, d, u, f] t (0, 0)) := by
  have := heap_setCell_same w X 3 _ _ u h; simpa using this
theorem five_set4 {X : Nat} {a b d e f : Value} {t : TypeId} (h : w.heap[X]? = some (.cells #[a, b, d, e, f] t (0, 0))) (u : Value) : (w.setCell ⟨X, 4, none⟩ u).heap[X]? = some (.cells #[a, b, d, e, u] t (0, 0)) := by
  have := heap_setCell_same w X 4 _ _ u h; simpa using this
theorem FC_set11 {X P SB : Nat} {en en' : Int} {vf : Value} (h : w.heap[X]? = some (.cells (FC P SB en vf) 61 (0, 0))) : (w.setCell ⟨X, 11, none⟩ (.int .i64 en')).heap[X]? = some (.cells (FC P SB en' vf) 61 (0, 0)) := by
  have := heap_setCell_same w X 11 _ _ (.int .i64 en') h; simpa [FC] using this
theorem FC_set12 {X P SB : Nat} {en : Int} {vf vf' : Value} (h : w.heap[X]? = some (.cells (FC P SB en vf) 61 (0, 0))) : (w.setCell ⟨X, 12, none⟩ vf').heap[X]? = some (.cells (FC P SB en vf') 61 (0, 0)) := by
  have := heap_setCell_same w X 12 _ _ vf' h; simpa [FC] using this

/-- A store into the writer's block. -/
theorem SI.setW (h : SI c vo vd vp dv os pgs bs ps sz er fl en vD xD w) {i : Nat} {u : Value} {sz' : Int} {er' : Value}
    (hw : (w.setCell ⟨c.WB, i, none⟩ u).heap[c.WB]? = some (.cells #[.pointer (some ⟨c.FB, 0, none⟩), .slice (some ⟨c.BB, 0, none⟩) bs.length c.P, vp, .int .i64 sz', er'] 69 (0, 0))) :
    SI c vo vd vp dv os pgs bs ps sz' er' fl en vD xD (w.setCell ⟨c.WB, i, none⟩ u) where
  bel := h.bel.setCell h.bW _
  le := by rw [size_setCell]; exact h.le
  bS := h.bS
  bF := h.bF
  bW := h.bW
  bB := h.bB
  stub := kp_set h.wr (by decide) _ _ _ h.stub
  find := kp_set h.wr (by decide) _ _ _ h.find
  wr := hw
  ob := ow_kp h.ob (kp_set h.wr (by decide) _)
  oo := ow_kp h.oo (kp_set h.wr (by decide) _)
  od := ow_kp h.od (kp_set h.wr (by decide) _)
  pg := fun j p hp => by
    obtain ⟨g, cp, a1, a2, a3, a4⟩ := h.pg j p hp
    exact ⟨g, cp, a1, a2, a3, ow_kp a4 (kp_set h.wr (by decide) _)⟩
  op := ow_kp h.op (kp_set h.wr (by decide) _)
  of := ow_kp h.of (kp_set h.wr (by decide) _)
  oD := ow_kp h.oD (kp_set h.wr (by decide) _)
  n1 := h.n1
  n2 := h.n2
  n3 := h.n3
  n5 := h.n5

theorem SI.setSz (h : SI c vo vd vp dv os pgs bs ps sz er fl en vD xD w) (sz' : Int) : SI c vo vd vp dv os pgs bs ps sz' er fl en vD xD (w.setCell ⟨c.WB, 3, none⟩ (.int .i64 sz')) := h.setW (five_set3 h.wr _)
theorem SI.setEr (h : SI c vo vd vp dv os pgs bs ps sz er fl en vD xD w) (er' : Value) : SI c vo vd vp dv os pgs bs ps sz er' fl en vD xD (w.setCell ⟨c.WB, 4, none⟩ er') := h.setW (five_set4 h.wr _)

/-- A store into the Finder's block. -/
theorem SI.setF (h : SI c vo vd vp dv os pgs bs ps sz er fl en vD xD w) {i : Nat} {u : Value} {fl' : Nat} {en' : Int}
    (hw : (w.setCell ⟨c.FB, i, none⟩ u).heap[c.FB]? = some (.cells (FC c.P c.SB en' (.slice c.fa fl' c.fcap)) 61 (0, 0))) :
    SI c vo vd vp dv os pgs bs ps sz er fl' en' vD xD (w.setCell ⟨c.FB, i, none⟩ u) where
  bel := h.bel.setCell h.bF _
  le := by rw [size_setCell]; exact h.le
  bS := h.bS
  bF := h.bF
  bW := h.bW
  bB := h.bB
  stub := kp_set h.find (by decide) _ _ _ h.stub
  find := hw
  wr := kp_set h.find (by decide) _ _ _ h.wr
  ob := ow_kp h.ob (kp_set h.find (by decide) _)
  oo := ow_kp h.oo (kp_set h.find (by decide) _)
  od := ow_kp h.od (kp_set h.find (by decide) _)
  pg := fun j p hp => by
    obtain ⟨g, cp, a1, a2, a3, a4⟩ := h.pg j p hp
    exact ⟨g, cp, a1, a2, a3, ow_kp a4 (kp_set h.find (by decide) _)⟩
  op := ow_kp h.op (kp_set h.find (by decide) _)
  of := ow_kp h.of (kp_set h.find (by decide) _)
  oD := ow_kp h.oD (kp_set h.find (by decide) _)
  n1 := h.n1
  n2 := h.n2
  n3 := h.n3
  n5 := h.n5

theorem SI.setEn (h : SI c vo vd vp dv os pgs bs ps sz er fl en vD xD w) (en' : Int) : SI c vo vd vp dv os pgs bs ps sz er fl en' vD xD (w.setCell ⟨c.FB, 11, none⟩ (.int .i64 en')) := h.setF (FC_set11 h.find)
theorem SI.setFl (h : SI c vo vd vp dv os pgs bs ps sz er fl en vD xD w) (fl' : Nat) : SI c vo vd vp dv os pgs bs ps sz er fl' en vD xD (w.setCell ⟨c.FB, 12, none⟩ (.slice c.fa fl' c.fcap)) := h.setF (FC_set12 h.find)

/-- The buffer's row has grown (or is cut), and the writer's cell is stored. -/
theorem SI.setB (h : SI c vo vd vp dv os pgs bs ps sz er fl en vD xD w) (hg : w.grownBy w1 (some c.BB)) {bs' : List Int} {n : Nat} (hn : n = bs'.length)
    (ho : w1.ownsRow c.base 5 1 (.slice (some ⟨c.BB, 0, none⟩) n c.P) n (by8 bs')) :
    SI c vo vd vp dv os pgs bs' ps sz er fl en vD xD (w1.setCell ⟨c.WB, 1, none⟩ (.slice (some ⟨c.BB, 0, none⟩) n c.P)) := by
  subst hn
  have hob : (Value.slice (some ⟨c.BB, 0, none⟩) bs.length c.P).ownBlock = some c.BB := rfl
  have k : ∀ {T : TypeId}, 5 ≠ T → Kp T w w1 := fun hne => kp_own h.ob (by rw [hob]; exact hg) hne
  have q := k (T := 69) (by decide) _ _ h.wr
  have s : ∀ {T : TypeId}, 69 ≠ T → Kp T w1 (w1.setCell ⟨c.WB, 1, none⟩ (.slice (some ⟨c.BB, 0, none⟩) bs'.length c.P)) := fun hne => kp_set q hne _
  have a : ∀ {T : TypeId}, 5 ≠ T → 69 ≠ T → Kp T w (w1.setCell ⟨c.WB, 1, none⟩ (.slice (some ⟨c.BB, 0, none⟩) bs'.length c.P)) := fun h1 h2 => kp_trans (k h1) (s h2)
  exact {
    bel := (h.bel.grown hg h.le (fun k hk => by simp at hk; rw [← hk]; exact h.bB)).setCell h.bW _
    le := by rw [size_setCell]; exact Nat.le_trans h.le hg.size
    bS := h.bS
    bF := h.bF
    bW := h.bW
    bB := h.bB
    stub := a (by decide) (by decide) _ _ h.stub
    find := a (by decide) (by decide) _ _ h.find
    wr := five_set1 q _
    ob := ow_kp ho (s (by decide))
    oo := ow_kp h.oo (a (by decide) (by decide))
    od := ow_kp h.od (a (by decide) (by decide))
    pg := fun j p hp => by
      obtain ⟨g, cp, a1, a2, a3, a4⟩ := h.pg j p hp
      refine ⟨g, cp, a1, a2, a3, ow_kp (a4.kept hg (.inr ?_)) (s (by decide))⟩
      simp [Value.ownBlock, a2]
    op := ow_kp h.op (a (by decide) (by decide))
    of := ow_kp h.of (a (by decide) (by decide))
    oD := ow_kp (h.oD.kept hg (.inr h.n5)) (s (by decide))
    n1 := h.n1
    n2 := h.n2
    n3 := h.n3
    n5 := h.n5 }

theorem ow_cut {b e n g cap : Nat} {xs : List Value} (h : w.ownsRow b e 1 (.slice (some ⟨g, 0, none⟩) n cap) n xs) : w.ownsRow b e 1 (.slice (some ⟨g, 0, none⟩) 0 cap) 0 [] := by
  refine ⟨by simp, ?_⟩
  rcases h.2 with ⟨h', _⟩ | ⟨g', cap', cur, h', h2, h3, h4, h5, h6, h7⟩
  · cases h'
  · cases h'
    exact .inr ⟨g, cap, cur, rfl, h2, h3, by omega, h5, h6, by simp⟩

theorem SI.cut (h : SI c vo vd vp dv os pgs bs ps sz er fl en vD xD w) : SI c vo vd vp dv os pgs [] ps sz er fl en vD xD (w.setCell ⟨c.WB, 1, none⟩ (.slice (some ⟨c.BB, 0, none⟩) 0 c.P)) :=
  h.setB (gb_refl _ _) rfl (ow_cut h.ob)

theorem lt_own {b e n : Nat} {v : Value} {xs : List Value} (h : w.ownsRow b e 1 v n xs) : ∀ k, v.ownBlock = some k → k < w.heap.size := fun k hk => (h.lt k hk).2

/-- An offset is logged. -/
theorem SI.addOff (h : SI c vo vd vp dv os pgs bs ps sz er fl en vD xD w) {g cap H n : Nat} {off : Int} (hg : w.grownBy w1 vo.ownBlock) (hn : n = os.length + 1)
    (ho : w1.ownsRow c.base 2 1 (.slice (some ⟨g, 0, none⟩) n cap) n (i6 os ++ [.int .i64 off])) (hat : vo.ownBlock = some g ∨ g = H) (hH : w.heap.size = H) :
    SI c (.slice (some ⟨g, 0, none⟩) n cap) vd vp dv (os ++ [off]) pgs bs ps sz er fl en vD xD (w1.setCell ⟨c.SB, 0, none⟩ (.slice (some ⟨g, 0, none⟩) n cap)) := by
  subst hn hH
  have k : ∀ {T : TypeId}, 2 ≠ T → Kp T w w1 := fun hne => kp_own h.oo hg hne
  have q := k (T := 53) (by decide) _ _ h.stub
  have s : ∀ {T : TypeId}, 53 ≠ T → Kp T w1 (w1.setCell ⟨c.SB, 0, none⟩ (.slice (some ⟨g, 0, none⟩) (os.length + 1) cap)) := fun hne => kp_set q hne _
  have a : ∀ {T : TypeId}, 2 ≠ T → 53 ≠ T → Kp T w (w1.setCell ⟨c.SB, 0, none⟩ (.slice (some ⟨g, 0, none⟩) (os.length + 1) cap)) := fun h1 h2 => kp_trans (k h1) (s h2)
  exact {
    bel := (h.bel.grown hg h.le (fun k hk => (h.oo.lt k hk).1)).setCell h.bS _
    le := by rw [size_setCell]; exact Nat.le_trans h.le hg.size
    bS := h.bS
    bF := h.bF
    bW := h.bW
    bB := h.bB
    stub := four_set0 q _
    find := a (by decide) (by decide) _ _ h.find
    wr := a (by decide) (by decide) _ _ h.wr
    ob := ow_kp h.ob (a (by decide) (by decide))
    oo := by have := ow_kp ho (s (by decide)); simpa using this
    od := ow_kp h.od (a (by decide) (by decide))
    pg := fun j p hp => by
      obtain ⟨g, cp, a1, a2, a3, a4⟩ := h.pg j p hp
      exact ⟨g, cp, a1, a2, a3, ow_kp a4 (a (by decide) (by decide))⟩
    op := ow_kp (h.n1.symm.keep hg h.op) (s (by decide))
    of := ow_kp (h.n2.symm.keep hg h.of) (s (by decide))
    oD := ow_kp h.oD (a (by decide) (by decide))
    n1 := h.n1.new hat (lt_own h.op)
    n2 := h.n2.new hat (lt_own h.of)
    n3 := h.n3
    n5 := h.n5 }

/-- A page's offset is kept by the writer. -/
theorem SI.addPs (h : SI c vo vd vp dv os pgs bs ps sz er fl en vD xD w) {g cap H n : Nat} {off : Int} (hg : w.grownBy w1 vp.ownBlock) (hn : n = ps.length + 1)
    (ho : w1.ownsRow c.base 2 1 (.slice (some ⟨g, 0, none⟩) n cap) n (i6 ps ++ [.int .i64 off])) (hat : vp.ownBlock = some g ∨ g = H) (hH : w.heap.size = H) :
    SI c vo vd (.slice (some ⟨g, 0, none⟩) n cap) dv os pgs bs (ps ++ [off]) sz er fl en vD xD (w1.setCell ⟨c.WB, 2, none⟩ (.slice (some ⟨g, 0, none⟩) n cap)) := by
  subst hn hH
  have k : ∀ {T : TypeId}, 2 ≠ T → Kp T w w1 := fun hne => kp_own h.op hg hne
  have q := k (T := 69) (by decide) _ _ h.wr
  have s : ∀ {T : TypeId}, 69 ≠ T → Kp T w1 (w1.setCell ⟨c.WB, 2, none⟩ (.slice (some ⟨g, 0, none⟩) (ps.length + 1) cap)) := fun hne => kp_set q hne _
  have a : ∀ {T : TypeId}, 2 ≠ T → 69 ≠ T → Kp T w (w1.setCell ⟨c.WB, 2, none⟩ (.slice (some ⟨g, 0, none⟩) (ps.length + 1) cap)) := fun h1 h2 => kp_trans (k h1) (s h2)
  exact {
    bel := (h.bel.grown hg h.le (fun k hk => (h.op.lt k hk).1)).setCell h.bW _
    le := by rw [size_setCell]; exact Nat.le_trans h.le hg.size
    bS := h.bS
    bF := h.bF
    bW := h.bW
    bB := h.bB
    stub := a (by decide) (by decide) _ _ h.stub
    find := a (by decide) (by decide) _ _ h.find
    wr := five_set2 q _
    ob := ow_kp h.ob (a (by decide) (by decide))
    oo := ow_kp (h.n1.keep hg h.oo) (s (by decide))
    od := ow_kp h.od (a (by decide) (by decide))
    pg := fun j p hp => by
      obtain ⟨g, cp, a1, a2, a3, a4⟩ := h.pg j p hp
      exact ⟨g, cp, a1, a2, a3, ow_kp a4 (a (by decide) (by decide))⟩
    op := by have := ow_kp ho (s (by decide)); simpa using this
    of := ow_kp (h.n3.symm.keep hg h.of) (s (by decide))
    oD := ow_kp h.oD (a (by decide) (by decide))
    n1 := (h.n1.symm.new hat (lt_own h.oo)).symm
    n2 := h.n2
    n3 := h.n3.new hat (lt_own h.of)
    n5 := h.n5 }

/-- A page's bytes are logged: 'G' holds their copy. -/
theorem SI.addPg (h : SI c vo vd vp dv os pgs bs ps sz er fl en vD xD w) {g cap n G cp m : Nat} {p : List Int} (hg : w.grownBy w1 vd.ownBlock) (hn : n = pgs.length + 1) (hm : m = p.length)
    (hG : w.ownsRow c.base 5 1 (.slice (some ⟨G, 0, none⟩) m cp) m (by8 p)) (hGB : G ≠ c.BB) (hGD : vD.ownBlock ≠ some G)
    (ho : w1.ownsRow c.base 33 1 (.slice (some ⟨g, 0, none⟩) n cap) n (dv ++ [Value.slice (some ⟨G, 0, none⟩) m cp])) :
    SI c vo (.slice (some ⟨g, 0, none⟩) n cap) vp (dv ++ [Value.slice (some ⟨G, 0, none⟩) m cp]) os (pgs ++ [p]) bs ps sz er fl en vD xD (w1.setCell ⟨c.SB, 1, none⟩ (.slice (some ⟨g, 0, none⟩) n cap)) := by
  subst hn hm
  have k : ∀ {T : TypeId}, 33 ≠ T → Kp T w w1 := fun hne => kp_own h.od hg hne
  have q := k (T := 53) (by decide) _ _ h.stub
  have s : ∀ {T : TypeId}, 53 ≠ T → Kp T w1 (w1.setCell ⟨c.SB, 1, none⟩ (.slice (some ⟨g, 0, none⟩) (pgs.length + 1) cap)) := fun hne => kp_set q hne _
  have a : ∀ {T : TypeId}, 33 ≠ T → 53 ≠ T → Kp T w (w1.setCell ⟨c.SB, 1, none⟩ (.slice (some ⟨g, 0, none⟩) (pgs.length + 1) cap)) := fun h1 h2 => kp_trans (k h1) (s h2)
  have hdl : dv.length = pgs.length := by have := h.od.1; simpa using this
  exact {
    bel := (h.bel.grown hg h.le (fun k hk => (h.od.lt k hk).1)).setCell h.bS _
    le := by rw [size_setCell]; exact Nat.le_trans h.le hg.size
    bS := h.bS
    bF := h.bF
    bW := h.bW
    bB := h.bB
    stub := four_set1 q _
    find := a (by decide) (by decide) _ _ h.find
    wr := a (by decide) (by decide) _ _ h.wr
    ob := ow_kp h.ob (a (by decide) (by decide))
    oo := ow_kp h.oo (a (by decide) (by decide))
    od := by have := ow_kp ho (s (by decide)); simpa using this
    pg := fun j p' hp => by
      by_cases hj : j < pgs.length
      · rw [List.getElem?_append_left hj] at hp
        obtain ⟨g, cp, a1, a2, a3, a4⟩ := h.pg j p' hp
        exact ⟨g, cp, by rw [List.getElem?_append_left (by omega)]; exact a1, a2, a3, ow_kp a4 (a (by decide) (by decide))⟩
      · rw [List.getElem?_append_right (by omega)] at hp
        obtain ⟨h1, h2⟩ := List.getElem?_eq_some_iff.1 hp
        have hj2 : j - pgs.length = 0 := by simp at h1; omega
        simp [hj2] at h2
        subst h2
        refine ⟨G, cp, ?_, hGB, hGD, ow_kp hG (a (by decide) (by decide))⟩
        rw [List.getElem?_append_right (by omega), hdl, hj2]
        rfl
    op := ow_kp h.op (a (by decide) (by decide))
    of := ow_kp h.of (a (by decide) (by decide))
    oD := ow_kp h.oD (a (by decide) (by decide))
    n1 := h.n1
    n2 := h.n2
    n3 := h.n3
    n5 := h.n5 }

/-- The law's own bytes have grown. -/
theorem SI.addD (h : SI c vo vd vp dv os pgs bs ps sz er fl en vD xD w) {g cap n H : Nat} {ys : List Int} (hg : w.grownBy w1 vD.ownBlock) (hn : n = xD.length + ys.length)
    (ho : w1.ownsRow c.base 5 1 (.slice (some ⟨g, 0, none⟩) n cap) n (by8 xD ++ by8 ys)) (hat : vD.ownBlock = some g ∨ g = H) (hH : w.heap.size = H) :
    SI c vo vd vp dv os pgs bs ps sz er fl en (.slice (some ⟨g, 0, none⟩) n cap) (xD ++ ys) w1 := by
  subst hn hH
  have a : ∀ {T : TypeId}, 5 ≠ T → Kp T w w1 := fun hne => kp_own h.oD hg hne
  exact {
    bel := h.bel.grown hg h.le (fun k hk => (h.oD.lt k hk).1)
    le := Nat.le_trans h.le hg.size
    bS := h.bS
    bF := h.bF
    bW := h.bW
    bB := h.bB
    stub := a (by decide) _ _ h.stub
    find := a (by decide) _ _ h.find
    wr := a (by decide) _ _ h.wr
    ob := h.ob.kept hg (.inr (fun e0 => h.n5 e0.symm))
    oo := ow_kp h.oo (a (by decide))
    od := ow_kp h.od (a (by decide))
    pg := fun j p hp => by
      obtain ⟨G, cp, a1, a2, a3, a4⟩ := h.pg j p hp
      refine ⟨G, cp, a1, a2, ?_, a4.kept hg (.inr (fun e0 => a3 e0.symm))⟩
      intro e0
      simp only [Value.ownBlock, Option.some.injEq] at e0
      subst e0
      rcases hat with h' | h'
      · exact a3 h'
      · have := (a4.lt g rfl).2
        omega
    op := ow_kp h.op (a (by decide))
    of := ow_kp h.of (a (by decide))
    oD := by have := ho; simpa using this
    n1 := h.n1
    n2 := h.n2
    n3 := h.n3
    n5 := by
      intro e0
      simp only [Value.ownBlock, Option.some.injEq] at e0
      subst e0
      rcases hat with h' | h'
      · exact h.n5 h'
      · have := (h.ob.lt c.BB rfl).2
        omega }
end
end Go.Proofs.Ybulkclou.Pg
