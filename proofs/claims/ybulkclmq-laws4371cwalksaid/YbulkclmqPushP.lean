/- Plain laws on worlds: what push's steps keep. No function of the program is named here but the row of blocks. -/
import Derived.Test.YbulkclmqParts
import Derived.Test.YbulkclmqGrow
namespace Go.Proofs.Ybulkclmq
open Go.RowKit
set_option linter.unusedVariables false

structure PN (X f nb : Nat) (vE vB : Value) (es bs : List Value) (w : World) : Prop where
  blk : w.heap[X]? = some (.cells #[vE, vB] 27 (0, 0))
  oE : w.ownsRow (X + 1) 2 1 vE nb es
  oB : BRow w (X + 1) vB nb bs
  len : ∀ t, t < nb → ∃ a c, bs[t * 2]? = some (.slice a f c)

structure PI (X f nb n : Nat) (vE vB sE sV : Value) (es bs xE xV : List Value) (w : World) : Prop where
  blk : w.heap[X]? = some (.cells #[vE, vB] 27 (0, 0))
  oE : w.ownsRow (X + 1) 2 1 vE nb es
  oB : BRow w (X + 1) vB nb (bs ++ [sE, sV])
  nb1 : 1 ≤ nb
  hbs : bs.length = (nb - 1) * 2
  len : ∀ t, t + 1 < nb → ∃ a c, bs[t * 2]? = some (.slice a f c)
  o1 : w.ownsRow (X + 1) 2 1 sE n xE
  o2 : w.ownsRow (X + 1) 3 1 sV n xV
  ne : sE.ownBlock = none ∨ sE.ownBlock ≠ vE.ownBlock

section
variable {w w1 : World} {k : Nat} {x o : Obj} {row : Option Nat}
theorem hp_drew (h : w.heap[k]? = some x) : w.drew.heap[k]? = some x := h
theorem hp_alloc (h : w.heap[k]? = some x) : (w.alloc o).heap[k]? = some x := (Below.heap_alloc w o k (lt_of_block h)).trans h
theorem hp_new {n : Nat} (h : n = w.heap.size) : (w.alloc o).heap[n]? = some o := by subst h; exact heap_alloc_new w o
theorem hp_below (hb : Below w.heap.size w w1) (h : w.heap[k]? = some x) : w1.heap[k]? = some x := (hb.block k (lt_of_block h)).trans h
theorem hp_grown (hg : w.grownBy w1 row) (hne : row ≠ some k) (h : w.heap[k]? = some x) : w1.heap[k]? = some x := (hg.block k (lt_of_block h) (Ne.symm hne)).trans h
variable {base e s n : Nat} {v : Value} {xs : List Value}
theorem ow_alloc (h : w.ownsRow base e s v n xs) : (w.alloc o).ownsRow base e s v n xs := h.alloc o
theorem ow_below (hb : Below w.heap.size w w1) (h : w.ownsRow base e s v n xs) : w1.ownsRow base e s v n xs := own_below h hb
theorem ow_grown (hg : w.grownBy w1 row) (hne : v.ownBlock = none ∨ v.ownBlock ≠ row) (h : w.ownsRow base e s v n xs) : w1.ownsRow base e s v n xs := h.kept hg hne
theorem br_drew (h : BRow w base v n xs) : BRow w.drew base v n xs := h
theorem br_grown (hg : w.grownBy w1 row) (hne : v.ownBlock = none ∨ v.ownBlock ≠ row) (h : BRow w base v n xs) : BRow w1 base v n xs := by
  obtain ⟨h1, h2⟩ := h
  refine ⟨h1, ?_⟩
  rcases h2 with h2 | ⟨g, cap, rfl, h3, h4, h5, h6⟩
  · exact .inl h2
  · exact .inr ⟨g, cap, rfl, h3, h4, h5, hp_grown hg (by rcases hne with e | e; (simp [Value.ownBlock] at e); exact fun e' => e (by rw [e']; rfl)) h6⟩
theorem br_alloc (h : BRow w base v n xs) : BRow (w.alloc o) base v n xs := br_grown (World.grownBy_alloc w o none) (by cases v.ownBlock <;> simp) h
theorem br_below (hb : Below w.heap.size w w1) (h : BRow w base v n xs) : BRow w1 base v n xs := br_grown (below_grown hb) (by cases v.ownBlock <;> simp) h
theorem br_setOther (h : BRow w base v n xs) {a : Addr} (ha : v.ownBlock ≠ some a.block) (u : Value) : BRow (w.setCell a u) base v n xs := by
  obtain ⟨h1, h2⟩ := h
  refine ⟨h1, ?_⟩
  rcases h2 with h2 | ⟨g, cap, rfl, h3, h4, h5, h6⟩
  · exact .inl h2
  · exact .inr ⟨g, cap, rfl, h3, h4, h5, by rw [Below.heap_setCell _ _ _ _ (fun e => ha (by simp [Value.ownBlock, e]))]; exact h6⟩
theorem br_lt (h : BRow w base v n xs) : ∀ k, v.ownBlock = some k → base ≤ k ∧ k < w.heap.size := by
  intro k hk
  rcases h.2 with ⟨rfl, _⟩ | ⟨g, cap, rfl, h3, _, _, h6⟩
  · simp [Value.ownBlock] at hk
  · simp [Value.ownBlock] at hk
    subst hk
    exact ⟨h3, lt_of_block h6⟩
theorem br_cell {g cap : Nat} (h : BRow w base (.slice (some ⟨g, 0, none⟩) n cap) n xs) (j : Nat) (hj : j < xs.length) : w.cell? ⟨g, j, none⟩ = xs[j]? := by
  rcases h.2 with ⟨h', _⟩ | ⟨g', cap', h', _, _, _, hg⟩
  · cases h'
  · cases h'
    rw [cell_of_row w g j _ _ _ hg]
    simp [List.getElem?_append_left hj]
theorem br_free {g cap : Nat} (h : BRow w base (.slice (some ⟨g, 0, none⟩) n cap) n xs) (j : Nat) : w.frozen? ⟨g, j, none⟩ = false := by
  rcases h.2 with ⟨h', _⟩ | ⟨g', cap', h', _, _, _, hg⟩
  · cases h'
  · cases h'
    exact frozen_of_row w g j _ _ hg
/-- A row of another element type lies elsewhere. -/
theorem br_ne {b' e' s' n' : Nat} {v' : Value} {xs' : List Value} (h : BRow w base v n xs) (k : w.ownsRow b' e' s' v' n' xs') (hne : e' ≠ 36) : v.ownBlock = none ∨ v.ownBlock ≠ v'.ownBlock := by
  rcases h.2 with ⟨rfl, _⟩ | ⟨g, cap, rfl, _, _, _, hg⟩
  · exact .inl rfl
  · right
    rcases k.2 with ⟨rfl, _⟩ | ⟨g', cap', cur', rfl, _, hg', _⟩
    · simp [Value.ownBlock]
    · simp only [Value.ownBlock, ne_eq, Option.some.injEq]
      intro e0
      subst e0
      rw [hg] at hg'
      simp at hg'
      exact hne hg'.2.symm
theorem ow_setOther (h : w.ownsRow base e s v n xs) {a : Addr} (ha : v.ownBlock ≠ some a.block) (u : Value) : (w.setCell a u).ownsRow base e s v n xs := ownsRow_setCell_other h ha u
theorem hp_setOther (h : w.heap[k]? = some x) {a : Addr} (ha : k ≠ a.block) (u : Value) : (w.setCell a u).heap[k]? = some x := (Below.heap_setCell w a u k ha).trans h
end

theorem list_set_two {bs rest : List Value} {a b a' b' : Value} {m : Nat} (hm : bs.length = m) : ((bs ++ [a, b] ++ rest).set m a').set (m + 1) b' = bs ++ [a', b'] ++ rest := by
  subst hm
  induction bs with
  | nil => rfl
  | cons y ys ih => simp

/-- The two cells of the last block are stored. -/
theorem br_last {w : World} {base n m g cap : Nat} {bs : List Value} {a b a' b' : Value} (h : BRow w base (.slice (some ⟨g, 0, none⟩) n cap) n (bs ++ [a, b])) (hm : bs.length = m) :
    BRow ((w.setCell ⟨g, m, none⟩ a').setCell ⟨g, m + 1, none⟩ b') base (.slice (some ⟨g, 0, none⟩) n cap) n (bs ++ [a', b']) := by
  obtain ⟨h1, h2⟩ := h
  refine ⟨by simpa using h1, ?_⟩
  rcases h2 with ⟨h2, _⟩ | ⟨g', cap', hv, h3, h4, h5, h6⟩
  · cases h2
  · cases hv
    refine .inr ⟨g, cap, rfl, h3, h4, h5, ?_⟩
    have e1 := heap_setCell_same w g m _ _ a' h6
    have e2 := heap_setCell_same _ g (m + 1) _ _ b' e1
    rw [e2]
    congr 2
    apply Array.ext'
    have := list_set_two (bs := bs) (rest := List.replicate ((cap - n) * 2) nilS) (a := a) (b := b) (a' := a') (b' := b') hm
    simpa using this

/-- Behind the two stores of a new block's statement. -/
theorem PI_new {X f nb gB cap : Nat} {vE vB vE' : Value} {es bs : List Value} {w : World} (hblk : w.heap[X]? = some (.cells #[vE, vB] 27 (0, 0))) (hE : w.ownsRow (X + 1) 2 1 vE' (nb + 1) es)
    (hg : X + 1 ≤ gB) (hc : nb + 1 ≤ cap) (hcm : cap ≤ maxLen) (hl : bs.length = nb * 2) (hrow : w.heap[gB]? = some (.cells (bs ++ List.replicate ((cap - nb) * 2) nilS).toArray 36 (0, 0)))
    (hlen : ∀ t, t < nb → ∃ a c, bs[t * 2]? = some (.slice a f c)) :
    PI X f (nb + 1) 0 vE' (.slice (some ⟨gB, 0, none⟩) (nb + 1) cap) nilS nilS es bs [] [] ((w.setCell ⟨X, 0, none⟩ vE').setCell ⟨X, 1, none⟩ (.slice (some ⟨gB, 0, none⟩) (nb + 1) cap)) := by
  have e1 := two_set0 hblk vE'
  have e2 := two_set1 e1 (.slice (some ⟨gB, 0, none⟩) (nb + 1) cap)
  refine ⟨e2, ownsRow_setCell_below (ownsRow_setCell_below hE (by simp) _) (by simp) _, ?_, by omega, by simpa using hl, fun t ht => hlen t (by omega), World.ownsRow_nil _ _ _ _, World.ownsRow_nil _ _ _ _, .inl rfl⟩
  refine br_setOther (br_setOther ?_ ?_ _) ?_ _
  · refine ⟨by simp; omega, .inr ⟨gB, cap, rfl, hg, hc, hcm, ?_⟩⟩
    rw [hrow]
    congr 3
    have : (cap - nb) * 2 = (cap - (nb + 1)) * 2 + 2 := by omega
    rw [this]
    simp [List.replicate_succ]
  · simp [Value.ownBlock]; omega
  · simp [Value.ownBlock]; omega

/-- Behind the two stores of the last block's new slices. -/
theorem PI_put {X f nb n n' m : Nat} {gB cap : Nat} {vE sE sV sE' sV' : Value} {es bs xE' xV' : List Value} {w : World} (hblk : w.heap[X]? = some (.cells #[vE, .slice (some ⟨gB, 0, none⟩) nb cap] 27 (0, 0)))
    (hE : w.ownsRow (X + 1) 2 1 vE nb es) (hB : BRow w (X + 1) (.slice (some ⟨gB, 0, none⟩) nb cap) nb (bs ++ [sE, sV])) (hnb : 1 ≤ nb) (hm : bs.length = m) (hm2 : m = (nb - 1) * 2)
    (hlen : ∀ t, t + 1 < nb → ∃ a c, bs[t * 2]? = some (.slice a f c)) (h1 : w.ownsRow (X + 1) 2 1 sE' n' xE') (h2 : w.ownsRow (X + 1) 3 1 sV' n' xV') (hne : sE'.ownBlock = none ∨ sE'.ownBlock ≠ vE.ownBlock) :
    PI X f nb n' vE (.slice (some ⟨gB, 0, none⟩) nb cap) sE' sV' es bs xE' xV' ((w.setCell ⟨gB, m, none⟩ sE').setCell ⟨gB, m + 1, none⟩ sV') := by
  have hgX : X ≠ gB := by have := (br_lt hB gB rfl).1; omega
  have q : ∀ {e n : Nat} {v : Value} {xs : List Value}, w.ownsRow (X + 1) e 1 v n xs → e ≠ 36 → v.ownBlock ≠ some gB := by
    intro e n v xs ho he e0
    rcases br_ne hB ho he with h | h
    · simp [Value.ownBlock] at h
    · exact h (by rw [e0]; rfl)
  exact ⟨hp_setOther (hp_setOther hblk hgX _) hgX _, ow_setOther (ow_setOther hE (q hE (by decide)) _) (q hE (by decide)) _, br_last hB hm, hnb, by omega, hlen,
    ow_setOther (ow_setOther h1 (q h1 (by decide)) _) (q h1 (by decide)) _, ow_setOther (ow_setOther h2 (q h2 (by decide)) _) (q h2 (by decide)) _, hne⟩

/-- The last block's two cells. -/
theorem PI.cellE {X f nb n m g cap : Nat} {vE sE sV : Value} {es bs xE xV : List Value} {w : World} (h : PI X f nb n vE (.slice (some ⟨g, 0, none⟩) nb cap) sE sV es bs xE xV w) (hm : m = (nb - 1) * 2) : w.cell? ⟨g, m, none⟩ = some sE := by
  rw [br_cell h.oB m (by simp [h.hbs]; omega), List.getElem?_append_right (by rw [h.hbs]; omega), h.hbs, hm, Nat.sub_self]; rfl
theorem PI.cellV {X f nb n m g cap : Nat} {vE sE sV : Value} {es bs xE xV : List Value} {w : World} (h : PI X f nb n vE (.slice (some ⟨g, 0, none⟩) nb cap) sE sV es bs xE xV w) (hm : m = (nb - 1) * 2) : w.cell? ⟨g, m + 1, none⟩ = some sV := by
  rw [br_cell h.oB (m + 1) (by simp [h.hbs]; omega), List.getElem?_append_right (by rw [h.hbs]; omega), h.hbs, hm, Nat.add_sub_cancel_left]; rfl
theorem PI.drew {X f nb n : Nat} {vE vB sE sV : Value} {es bs xE xV : List Value} {w : World} (h : PI X f nb n vE vB sE sV es bs xE xV w) : PI X f nb n vE vB sE sV es bs xE xV w.drew := ⟨h.blk, h.oE, h.oB, h.nb1, h.hbs, h.len, h.o1, h.o2, h.ne⟩
/-- Behind the store of the block's end. -/
theorem PI.stored {X f nb n gE capE j : Nat} {vB sE sV u : Value} {es bs xE xV : List Value} {w : World} (h : PI X f nb n (.slice (some ⟨gE, 0, none⟩) nb capE) vB sE sV es bs xE xV w) :
    PI X f nb n (.slice (some ⟨gE, 0, none⟩) nb capE) vB sE sV (es.set j u) bs xE xV (w.setCell ⟨gE, j, none⟩ u) := by
  have hgX : X ≠ gE := by have := (h.oE.lt gE rfl).1; omega
  refine ⟨hp_setOther h.blk hgX _, (h.oE.stored j u).1, br_setOther h.oB ?_ _, h.nb1, h.hbs, h.len, ow_setOther h.o1 ?_ _, ow_setOther h.o2 ?_ _, h.ne⟩
  · intro e0
    rcases br_ne h.oB h.oE (by decide) with h' | h'
    · rw [h'] at e0; cases e0
    · exact h' e0
  · intro e0
    rcases h.ne with h' | h'
    · rw [h'] at e0; cases e0
    · exact h' e0
  · intro e0
    rcases own_ne h.o2 h.oE (by decide) with h' | h'
    · rw [h'] at e0; cases e0
    · exact h' e0

/-- A full last block: ready for a new one. -/
theorem PI.full {X f nb : Nat} {vE vB sE sV : Value} {es bs xE xV : List Value} {w : World} (h : PI X f nb f vE vB sE sV es bs xE xV w) (hf : 1 ≤ f) : PN X f nb vE vB es (bs ++ [sE, sV]) w := by
  refine ⟨h.blk, h.oE, h.oB, fun t ht => ?_⟩
  by_cases h1 : t + 1 < nb
  · obtain ⟨a, c, e⟩ := h.len t h1
    exact ⟨a, c, by rw [List.getElem?_append_left (by rw [h.hbs]; omega)]; exact e⟩
  · obtain rfl : t = nb - 1 := by omega
    obtain ⟨g, cap, rfl, _⟩ := h.o1.form (by omega)
    refine ⟨some ⟨g, 0, none⟩, cap, ?_⟩
    rw [List.getElem?_append_right (by rw [h.hbs]; omega), h.hbs, Nat.sub_self]
    rfl

/-- The index without the last block's own two rows. -/
structure RS (X nb : Nat) (vE vB sE sV : Value) (es bs : List Value) (w : World) : Prop where
  blk : w.heap[X]? = some (.cells #[vE, vB] 27 (0, 0))
  oE : w.ownsRow (X + 1) 2 1 vE nb es
  oB : BRow w (X + 1) vB nb (bs ++ [sE, sV])
section
variable {X f nb n : Nat} {vE vB sE sV : Value} {es bs xE xV : List Value} {w w1 : World}
theorem PI.rs (h : PI X f nb n vE vB sE sV es bs xE xV w) : RS X nb vE vB sE sV es bs w := ⟨h.blk, h.oE, h.oB⟩
theorem RS.drew (h : RS X nb vE vB sE sV es bs w) : RS X nb vE vB sE sV es bs w.drew := ⟨h.blk, h.oE, h.oB⟩
theorem RS.alloc {o : Obj} (h : RS X nb vE vB sE sV es bs w) : RS X nb vE vB sE sV es bs (w.alloc o) := ⟨hp_alloc h.blk, ow_alloc h.oE, br_alloc h.oB⟩
theorem RS.grown {row : Option Nat} (h : RS X nb vE vB sE sV es bs w) (hg : w.grownBy w1 row) (h1 : row ≠ some X) (h2 : vE.ownBlock = none ∨ vE.ownBlock ≠ row) (h3 : vB.ownBlock = none ∨ vB.ownBlock ≠ row) : RS X nb vE vB sE sV es bs w1 :=
  ⟨hp_grown hg h1 h.blk, ow_grown hg h2 h.oE, br_grown hg h3 h.oB⟩
theorem PI.nX1 (h : PI X f nb n vE vB sE sV es bs xE xV w) : sE.ownBlock ≠ some X := fun e0 => by have := (h.o1.lt X e0).1; omega
theorem PI.nX2 (h : PI X f nb n vE vB sE sV es bs xE xV w) : sV.ownBlock ≠ some X := fun e0 => by have := (h.o2.lt X e0).1; omega
theorem PI.nE1 (h : PI X f nb n vE vB sE sV es bs xE xV w) : vE.ownBlock = none ∨ vE.ownBlock ≠ sE.ownBlock := by
  cases hv : vE.ownBlock with
  | none => exact .inl rfl
  | some k =>
    right
    rcases h.ne with h' | h'
    · rw [h']; simp
    · rw [hv] at h'; exact Ne.symm h'
theorem PI.nE2 (h : PI X f nb n vE vB sE sV es bs xE xV w) : vE.ownBlock = none ∨ vE.ownBlock ≠ sV.ownBlock := own_ne h.oE h.o2 (by decide)
theorem PI.nB1 (h : PI X f nb n vE vB sE sV es bs xE xV w) : vB.ownBlock = none ∨ vB.ownBlock ≠ sE.ownBlock := br_ne h.oB h.o1 (by decide)
theorem PI.nB2 (h : PI X f nb n vE vB sE sV es bs xE xV w) : vB.ownBlock = none ∨ vB.ownBlock ≠ sV.ownBlock := br_ne h.oB h.o2 (by decide)
theorem PI.nVE (h : PI X f nb n vE vB sE sV es bs xE xV w) : sV.ownBlock = none ∨ sV.ownBlock ≠ sE.ownBlock := own_ne h.o2 h.o1 (by decide)
theorem ne_after {g Hh cp k : Nat} (hat : sE.ownBlock = some g ∨ g = Hh) (hne : sE.ownBlock = none ∨ sE.ownBlock ≠ vE.ownBlock) (hlt : ∀ k, vE.ownBlock = some k → k < Hh) :
    (Value.slice (some ⟨g, 0, none⟩) k cp).ownBlock = none ∨ (Value.slice (some ⟨g, 0, none⟩) k cp).ownBlock ≠ vE.ownBlock := by
  right
  intro e0
  simp only [Value.ownBlock] at e0
  rcases hat with h | h
  · rcases hne with h' | h'
    · rw [h'] at h; cases h
    · exact h' (by rw [h]; exact e0)
  · have := hlt g e0.symm; omega
theorem PI.bel (h : PI X f nb n vE vB sE sV es bs xE xV w) {a w2 : World} (hb : Below X a w) (hg : w.grownBy w2 sE.ownBlock) : Below X a w2 := hb.grown hg (by have := two_lt h.blk; omega) (fun k hk => by have := (h.o1.lt k hk).1; omega)
end
/-- What the loads of the last statement read. -/
def CY (g m m1 : Nat) (a b : Value) (w : World) : Prop := w.cell? ⟨g, m, none⟩ = some a ∧ w.cell? ⟨g, m1, none⟩ = some b ∧ w.frozen? ⟨g, m, none⟩ = false ∧ w.frozen? ⟨g, m1, none⟩ = false
theorem CY_of {X nb m m1 g cap : Nat} {vE sE sV : Value} {es bs : List Value} {w : World} (h : RS X nb vE (.slice (some ⟨g, 0, none⟩) nb cap) sE sV es bs w) (hm : bs.length = m) (h1 : m1 = m + 1) : CY g m m1 sE sV w := by
  subst h1
  refine ⟨?_, ?_, br_free h.oB _, br_free h.oB _⟩
  · rw [br_cell h.oB m (by simp; omega), List.getElem?_append_right (by omega), hm, Nat.sub_self]; rfl
  · rw [br_cell h.oB (m + 1) (by simp; omega), List.getElem?_append_right (by omega), hm, Nat.add_sub_cancel_left]; rfl
end Go.Proofs.Ybulkclmq
