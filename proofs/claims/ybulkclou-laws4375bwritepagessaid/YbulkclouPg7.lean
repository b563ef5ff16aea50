/- What the law's last part reads. -/
import Derived.Test.YbulkclouPg6
import Derived.LaidEql
namespace Go.Proofs.Ybulkclou.Pg
open Go.RowKit
set_option linter.unusedVariables false
set_option linter.unusedSimpArgs false
set_option maxRecDepth 100000

theorem comp75 : (Yba.prog.info? 75).map (fun i => i.comparable) = some true := by kernel_rfl
theorem size77 : (Yba.prog.info? 77).map (fun i => i.size) = some 1 := by kernel_rfl
theorem neqE (b : Nat) (w : World) : (binOp .neq 41 (.iface 75 (.pointer (some ⟨b, 0, none⟩))) (.iface 75 (.pointer (some ⟨b, 0, none⟩)))).run Yba.prog w = .ok (.bool false) w := by
  obtain ⟨i, hi, hc⟩ := Option.map_eq_some_iff.1 comp75
  obtain ⟨k, hk, _⟩ := Option.map_eq_some_iff.1 size77
  simp only [binOp]
  simp [Op.equal, Op.maxDepth, run_equalIn_iface_ptr_same w 9998 ⟨b, 0, none⟩ Yba.underlying41 Yba.underlying75 hi hc hk]

set_option maxHeartbeats 1000000 in
/-- slices.Equal where the two hold the same. -/
theorem sleqN (a1 a2 : Option Addr) (n c1 c2 : Nat) (b1 o1 b2 o2 : Nat) (f : Nat → Int) (w : World) (hn : n ≤ 100000) (h1 : 0 < n → a1 = some ⟨b1, o1, none⟩) (h2 : 0 < n → a2 = some ⟨b2, o2, none⟩)
    (q1 : ∀ j, j < n → w.cell? ⟨b1, o1 + j, none⟩ = some (.int .i64 (f j))) (q2 : ∀ j, j < n → w.cell? ⟨b2, o2 + j, none⟩ = some (.int .i64 (f j))) :
    Calls Yba.prog 12 #[.slice a1 n c1, .slice a2 n c2] w fun e w' => e = .returned (.bool true) ∧ ∃ m, w' = w.drewN m := by
  have HA : Hid ((0 < n → a1 = some ⟨b1, o1, none⟩) ∧ (0 < n → a2 = some ⟨b2, o2, none⟩)) := ⟨h1, h2⟩
  have H1 : Hid (∀ j, j < n → w.cell? ⟨b1, o1 + j, none⟩ = some (.int .i64 (f j))) := q1
  have H2 : Hid (∀ j, j < n → w.cell? ⟨b2, o2 + j, none⟩ = some (.int .i64 (f j))) := q2
  clear h1 h2 q1 q2
  go_enter Yba.func12, Yba.ntmps12
  go_wp2
  go_loopw [13] (fun iv wr => ∃ i : Nat, i ≤ n ∧ iv = .int .i64 i ∧ ∃ m, wr = w.drewN m) (fun iv _ => n - (intOf iv).toNat)
  case atStart => exact ⟨0, Nat.zero_le _, rfl, 0, rfl⟩
  case round =>
    obtain ⟨i, hi, rfl, m, rfl⟩ := hrel
    by_cases hlt : i < n
    · obtain ⟨rfl, rfl⟩ : a1 = some ⟨b1, o1, none⟩ ∧ a2 = some ⟨b2, o2, none⟩ := ⟨HA.out.1 (by omega), HA.out.2 (by omega)⟩
      have e1 := H1.out i hlt
      have e2 := H2.out i hlt
      have hln : (i : Int) < (n : Int) := by omega
      go_wp2
      go_quiet (fail)
      go_wp2
      go_roundw
      case rel => exact ⟨i + 1, by omega, by go_num, m + nq, rfl⟩
      case measure => simp [intOf]; omega
    · obtain rfl : i = n := by omega
      go_wp2
      go_ret
      exact ⟨rfl, m, rfl⟩

/-- A page of the bytes. -/
def pageOf (P j : Nat) (D : List Int) : List Int := (D.drop (j * P)).take P

theorem page_at {P : Nat} : ∀ (pgs : List (List Int)) (rest : List Int) (j : Nat) (p : List Int), (∀ p ∈ pgs, p.length = P) → pgs[j]? = some p → pageOf P j (pgs.flatten ++ rest) = p
  | [], rest, j, p, _, h => by simp at h
  | q :: qs, rest, 0, p, hl, h => by
    have hq := hl q (by simp)
    simp at h
    subst h
    simp [pageOf, hq]
  | q :: qs, rest, j + 1, p, hl, h => by
    have hq := hl q (by simp)
    have ih := page_at qs rest j p (fun r hr => hl r (by simp [hr])) (by simpa using h)
    rw [← ih]
    unfold pageOf
    rw [Nat.succ_mul, Nat.add_comm, ← List.drop_drop]
    congr 2
    simp [hq]

section
variable {w : World} {base e g n cap : Nat} {v : Value} {xs : List Value}
theorem own_shape (h : w.ownsRow base e 1 v n xs) : ∃ a cap, v = .slice a n cap ∧ n ≤ cap ∧ cap ≤ 9223372036854775807 ∧ ((a = none ∧ n = 0 ∧ cap = 0) ∨ ∃ g, a = some ⟨g, 0, none⟩) := by
  rcases h.2 with ⟨rfl, rfl⟩ | ⟨g, cap, cur, rfl, _, _, h4, h5, _⟩
  · exact ⟨none, 0, rfl, Nat.le_refl _, by omega, .inl ⟨rfl, rfl, rfl⟩⟩
  · exact ⟨_, cap, rfl, h4, h5, .inr ⟨g, rfl⟩⟩

theorem reads_part (w : World) (g lo m cap : Nat) (xs : List Int) (hm : xs.length = m) (h : ∀ i, i < m → w.cell? ⟨g, lo + i, none⟩ = some (.int .u8 (xs.getD i 0))) : Reads w (.slice (some ⟨g, lo, none⟩) m cap) (strOfNums xs) := by
  refine run_convert_bytes_arg w 33 5 Yba.underlying33 Yba.underlying5 g lo m cap xs hm (fun i hi => ?_) 9 Yba.underlying9
  rw [h i hi]

theorem own8_cell {D : List Int} (h : w.ownsRow base 5 1 (.slice (some ⟨g, 0, none⟩) n cap) n (by8 D)) (hD : D.length = n) (j : Nat) (hj : j < n) : w.cell? ⟨g, j, none⟩ = some (.int .u8 (D.getD j 0)) := by
  rw [h.cellAt j (by omega)]
  have : j < D.length := by omega
  simp [this]
theorem own6_cell {D : List Int} (h : w.ownsRow base 2 1 (.slice (some ⟨g, 0, none⟩) n cap) n (i6 D)) (hD : D.length = n) (j : Nat) (hj : j < n) : w.cell? ⟨g, j, none⟩ = some (.int .i64 (D.getD j 0)) := by
  rw [h.cellAt j (by omega)]
  have : j < D.length := by omega
  simp [this]

theorem own8_reads {D : List Int} (h : w.ownsRow base 5 1 (.slice (some ⟨g, 0, none⟩) n cap) n (by8 D)) (hD : D.length = n) (lo m cap' : Nat) (hlo : lo + m ≤ n) : Reads w (.slice (some ⟨g, lo, none⟩) m cap') (strOfNums ((D.drop lo).take m)) := by
  refine reads_part w g lo m cap' _ (by simp; omega) (fun i hi => ?_)
  rw [own8_cell h hD (lo + i) (by omega)]
  congr 2
  have : lo + i < D.length := by omega
  simp [List.getD_eq_getElem?_getD, hi]

theorem reads_empty (w : World) (g lo cap : Nat) : Reads w (.slice (some ⟨g, lo, none⟩) 0 cap) (strOfNums []) := reads_part w g lo 0 cap [] rfl (fun i hi => absurd hi (by omega))

/-- The two read the same. -/
theorem beq_eq (v1 v2 : Value) (s : ByteArray) (w : World) (h1 : Reads w v1 s) (h2 : Reads w v2 s) : Calls Yba.prog 7 #[v1, v2] w fun e w' => e = .returned (.bool true) ∧ w' = w := by
  refine (beq v1 v2 s s w h1 h2).mono ?_
  rintro e w' ⟨rfl, rfl⟩
  exact ⟨by simp, rfl⟩

theorem Reads.drewN {v : Value} {s : ByteArray} (h : ∀ w' : World, w'.Alike w → Reads w' v s) (m : Nat) : Reads (w.drewN m) v s := h _ ⟨rfl, rfl, rfl⟩
end

/-! ### Slices of slices -/
theorem add_zero' (a : Option Addr) : a.map (fun x => x.add 0) = a := by
  cases a with
  | none => rfl
  | some x => obtain ⟨b, o, s⟩ := x; cases s <;> simp [Addr.add]

theorem size2 (w : World) : (sizeOf 2).run Yba.prog w = .ok 1 w := by
  obtain ⟨i, hi, _, h2, _⟩ := info_parts info2
  simp [sizeOf, typeInfo, hi, h2]
theorem size5 (w : World) : (sizeOf 5).run Yba.prog w = .ok 1 w := by
  obtain ⟨i, hi, _, h2, _⟩ := info_parts info5
  simp [sizeOf, typeInfo, hi, h2]

/-- s[:hi], whatever the address. -/
theorem slice_hi (a : Option Addr) (n cap hi : Nat) (h : hi ≤ cap) (hc : cap ≤ 9223372036854775807) (w : World) : (Instr.sliceAt 48 (.slice a n cap) none (some (.int .i64 hi)) none).run Yba.prog w = .ok (.slice a hi cap) w := by
  have h1 : (0 : Int) ≤ (hi : Int) ∧ (hi : Int) ≤ (cap : Int) := by omega
  simp [Instr.sliceAt, Instr.slice, run_underlying Yba.underlying48, Instr.sliceBounds, Instr.sliceBound, asIntOf, h1, h, size2, add_zero']

/-- s[lo:hi], something of it left. -/
theorem slice_lohi (g n cap lo hi m : Nat) (h : lo < hi) (h2 : hi ≤ cap) (hm : hi - lo = m) (w : World) : (Instr.sliceAt 33 (.slice (some ⟨g, 0, none⟩) n cap) (some (.int .i64 lo)) (some (.int .i64 hi)) none).run Yba.prog w = .ok (.slice (some ⟨g, lo, none⟩) m (cap - lo)) w := by
  subst hm
  have h3 : lo ≤ hi := by omega
  have h4 : ¬ cap = lo := by omega
  simp [Instr.sliceAt, Instr.slice, run_underlying Yba.underlying33, Instr.sliceBounds, Instr.sliceBound, asIntOf, h2, h3, h4, size5, Go.WideShapes.add_plain]

/-- s[lo:], whatever the address. -/
theorem slice_lo (a : Option Addr) (n cap lo m : Nat) (h : lo ≤ n) (hm : n - lo = m) (w : World) : (Instr.sliceAt 33 (.slice a n cap) (some (.int .i64 lo)) none none).run Yba.prog w = .ok (.slice (if cap = lo then a else a.map (fun x => x.add lo)) m (cap - lo)) w := by
  subst hm
  simp [Instr.sliceAt, Instr.slice, run_underlying Yba.underlying33, Instr.sliceBounds, Instr.sliceBound, asIntOf, h, size5]

/-! ### What the last part reads -/
section
variable {c : Cx} {vo vd vp : Value} {dv : List Value} {pgs : List (List Int)} {bs rest : List Int} {sz : Int} {er : Value} {fl kk gg : Nat} {en e0 : Int} {vD : Value} {D : List Int} {w : World}

theorem offs_getD (c : Cx) (e0 : Int) (k j : Nat) (h : j < k) : (offs c e0 k).getD j 0 = offAt c e0 j := by
  simp [offs, List.getD_eq_getElem?_getD, h]

theorem SI.offsT (h : SI c vo vd vp dv (offs c e0 kk) pgs bs (offs c e0 gg) sz er fl en vD D w) : ∃ oa oc og, w.cell? ⟨c.SB, 0, none⟩ = some (.slice oa kk oc) ∧ kk ≤ oc ∧ oc ≤ 9223372036854775807 ∧ (0 < kk → oa = some ⟨og, 0, none⟩) ∧ ∀ j, j < kk → w.cell? ⟨og, j, none⟩ = some (.int .i64 (offAt c e0 j)) := by
  have ho := h.oo
  rw [offs_length] at ho
  obtain ⟨a, cap, rfl, h1, h2, h3⟩ := own_shape ho
  have hs := four_cell0 h.stub
  rcases h3 with ⟨rfl, rfl, rfl⟩ | ⟨g, rfl⟩
  · exact ⟨none, 0, 0, hs, h1, h2, fun h => absurd h (by omega), fun j hj => absurd hj (by omega)⟩
  · exact ⟨_, cap, g, hs, h1, h2, fun _ => rfl, fun j hj => by rw [own6_cell ho (offs_length _ _ _) j hj, offs_getD _ _ _ _ hj]⟩

theorem SI.psT (h : SI c vo vd vp dv (offs c e0 kk) pgs bs (offs c e0 gg) sz er fl en vD D w) : ∃ oa oc og, w.cell? ⟨c.WB, 2, none⟩ = some (.slice oa gg oc) ∧ gg ≤ oc ∧ oc ≤ 9223372036854775807 ∧ (0 < gg → oa = some ⟨og, 0, none⟩) ∧ ∀ j, j < gg → w.cell? ⟨og, j, none⟩ = some (.int .i64 (offAt c e0 j)) := by
  have ho := h.op
  rw [offs_length] at ho
  obtain ⟨a, cap, rfl, h1, h2, h3⟩ := own_shape ho
  have hs := five_cell2 h.wr
  rcases h3 with ⟨rfl, rfl, rfl⟩ | ⟨g, rfl⟩
  · exact ⟨none, 0, 0, hs, h1, h2, fun h => absurd h (by omega), fun j hj => absurd hj (by omega)⟩
  · exact ⟨_, cap, g, hs, h1, h2, fun _ => rfl, fun j hj => by rw [own6_cell ho (offs_length _ _ _) j hj, offs_getD _ _ _ _ hj]⟩

theorem SI.freeT (h : SI c vo vd vp dv (offs c e0 kk) pgs bs (offs c e0 gg) sz er fl en vD D w) (hl : c.frs.length = c.L) : ∃ og, (0 < c.L → c.fa = some ⟨og, 0, none⟩) ∧ ∀ j, j < c.L → w.cell? ⟨og, j, none⟩ = some (.int .i64 (c.frs.getD j 0)) := by
  have ho := h.of
  obtain ⟨a, cap, h0, h1, h2, h3⟩ := own_shape ho
  simp only [Value.slice.injEq] at h0
  rcases h3 with ⟨_, hL, _⟩ | ⟨g, hg⟩
  · exact ⟨0, fun h => absurd h (by omega), fun j hj => absurd hj (by omega)⟩
  · refine ⟨g, fun _ => h0.1.trans hg, fun j hj => ?_⟩
    rw [h0.1, hg] at ho
    exact own6_cell ho hl j hj

theorem SI.pagesT (h : SI c vo vd vp dv (offs c e0 kk) pgs bs (offs c e0 gg) sz er fl en vD D w) (hk : pgs.length = kk) (hpl : ∀ p ∈ pgs, p.length = c.P) (hD : D = pgs.flatten ++ rest) :
    ∃ da dc dg, w.cell? ⟨c.SB, 1, none⟩ = some (.slice da kk dc) ∧ kk ≤ dc ∧ dc ≤ 9223372036854775807 ∧ (0 < kk → da = some ⟨dg, 0, none⟩) ∧
      ∀ j, j < kk → ∃ g cp, w.cell? ⟨dg, j, none⟩ = some (.slice (some ⟨g, 0, none⟩) c.P cp) ∧ ∀ w' : World, w'.heap = w.heap → Reads w' (.slice (some ⟨g, 0, none⟩) c.P cp) (strOfNums (pageOf c.P j D)) := by
  subst hk
  have ho := h.od
  obtain ⟨a, cap, rfl, h1, h2, h3⟩ := own_shape ho
  have hs := four_cell1 h.stub
  rcases h3 with ⟨rfl, h0, rfl⟩ | ⟨g, rfl⟩
  · exact ⟨none, 0, 0, hs, h1, h2, fun h => absurd h (by omega), fun j hj => absurd hj (by omega)⟩
  · refine ⟨_, cap, g, hs, h1, h2, fun _ => rfl, fun j hj => ?_⟩
    have hp : pgs[j]? = some (pgs[j]'hj) := List.getElem?_eq_getElem hj
    obtain ⟨G, cp, a1, _, _, a4⟩ := h.pg j _ hp
    have hpl2 : (pgs[j]'hj).length = c.P := hpl _ (List.getElem_mem hj)
    rw [hpl2] at a1 a4
    refine ⟨G, cp, by rw [ho.cellAt j (by omega)]; exact a1, fun w' hw' => ?_⟩
    rw [hD, page_at pgs rest j _ hpl hp]
    have a5 : w'.ownsRow c.base 5 1 (.slice (some ⟨G, 0, none⟩) c.P cp) c.P (by8 (pgs[j]'hj)) := by
      unfold World.ownsRow at *
      rw [hw']
      exact a4
    have := own8_reads a5 hpl2 0 c.P cp (by omega)
    simpa [hpl2, List.take_of_length_le] using this

/-- The law's own bytes. -/
theorem SI.dataT (h : SI c vo vd vp dv (offs c e0 kk) pgs bs (offs c e0 gg) sz er fl en vD D w) : ∃ xa xc, vD = .slice xa D.length xc ∧ D.length ≤ xc ∧ xc ≤ 9223372036854775807 ∧
      (0 < D.length → ∃ xg, xa = some ⟨xg, 0, none⟩ ∧ ∀ w' : World, w'.heap = w.heap → ∀ lo m cap, lo + m ≤ D.length → Reads w' (.slice (some ⟨xg, lo, none⟩) m cap) (strOfNums ((D.drop lo).take m))) ∧
      (∀ lo, lo ≤ D.length → ∃ aX, (if xc = lo then xa else xa.map (fun x => x.add lo)) = aX ∧ ∀ w' : World, w'.heap = w.heap → Reads w' (.slice aX (D.length - lo) (xc - lo)) (strOfNums (D.drop lo))) := by
  obtain ⟨a, cap, rfl, h1, h2, h3⟩ := own_shape h.oD
  refine ⟨a, cap, rfl, h1, h2, fun hp => ?_, fun lo hlo => ?_⟩
  · rcases h3 with ⟨_, h0, _⟩ | ⟨g, rfl⟩
    · omega
    · refine ⟨g, rfl, fun w' hw' lo m cap' hle => ?_⟩
      have ho : w'.ownsRow c.base 5 1 (.slice (some ⟨g, 0, none⟩) D.length cap) D.length (by8 D) := by
        have := h.oD
        unfold World.ownsRow at *
        rw [hw']
        exact this
      exact own8_reads ho rfl lo m cap' hle
  · refine ⟨_, rfl, fun w' hw' => ?_⟩
    rcases h3 with ⟨rfl, h0, rfl⟩ | ⟨g, rfl⟩
    · have : D = [] := List.eq_nil_of_length_eq_zero h0
      subst this
      have hlo0 : lo = 0 := by simpa using hlo
      subst hlo0
      have := reads_nil w'
      rw [if_pos rfl]
      exact this
    · have ho : w'.ownsRow c.base 5 1 (.slice (some ⟨g, 0, none⟩) D.length cap) D.length (by8 D) := by
        have := h.oD
        unfold World.ownsRow at *
        rw [hw']
        exact this
      by_cases hc : cap = lo
      · rw [if_pos hc]
        have hl : D.length - lo = 0 := by omega
        have hd : D.drop lo = [] := List.drop_of_length_le (by omega)
        rw [hl, hd]
        exact reads_empty w' g 0 _
      · rw [if_neg hc]
        have := own8_reads ho rfl lo (D.length - lo) (cap - lo) (by omega)
        rw [List.take_of_length_le (by simp)] at this
        simpa [Go.WideShapes.add_plain] using this

theorem SI.bufT (h : SI c vo vd vp dv (offs c e0 kk) pgs bs (offs c e0 gg) sz er fl en vD D w) : ∀ w' : World, w'.heap = w.heap → Reads w' (.slice (some ⟨c.BB, 0, none⟩) bs.length c.P) (strOfNums bs) := by
  intro w' hw'
  have ho : w'.ownsRow c.base 5 1 (.slice (some ⟨c.BB, 0, none⟩) bs.length c.P) bs.length (by8 bs) := by
    have := h.ob
    unfold World.ownsRow at *
    rw [hw']
    exact this
  have := own8_reads ho rfl 0 bs.length c.P (by omega)
  simpa using this
end
end Go.Proofs.Ybulkclou.Pg
namespace Go.Proofs.Ybulkclou.Pg
theorem freeArg (w : World) (fa0 : Option Addr) (L fc : Nat) (frs : List Int) (hl : frs.length = L)
    (h : (fa0 = none ∧ L = 0 ∧ fc = 0) ∨ ∃ x, fa0 = some x ∧ L ≤ fc ∧ fc ≤ 9223372036854775807 ∧ (0 < L → x.block < w.heap.size) ∧ ∀ j u, (i6 frs)[j]? = some u → w.cell? (x.add j) = some u) :
    ∃ fb fo, L ≤ fc ∧ fc ≤ 9223372036854775807 ∧ (0 < L → fa0 = some ⟨fb, fo, none⟩ ∧ fb < w.heap.size) ∧ ∀ j, j < L → w.cell? ⟨fb, fo + j, none⟩ = some (.int .i64 (frs.getD j 0)) := by
  rcases h with ⟨rfl, rfl, rfl⟩ | ⟨x, rfl, h1, h2, h3, h4⟩
  · exact ⟨0, 0, Nat.le_refl _, by omega, fun h => absurd h (by omega), fun j hj => absurd hj (by omega)⟩
  · have h5 : ∀ j, j < L → w.cell? (x.add j) = some (.int .i64 (frs.getD j 0)) := fun j hj => h4 j _ (by
      have : j < frs.length := by omega
      simp [this])
    by_cases hp : 0 < L
    · obtain ⟨b, off, spot⟩ := x
      have hspot : spot = none := by simpa [Addr.add] using World.cell?_spot (h5 0 hp)
      subst hspot
      exact ⟨b, off, h1, h2, fun _ => ⟨rfl, h3 hp⟩, fun j hj => by rw [← Go.WideShapes.add_plain]; exact h5 j hj⟩
    · exact ⟨0, 0, h1, h2, fun h => absurd h hp, fun j hj => absurd hj (by omega)⟩

theorem tdiv_nat (N P k r : Nat) (hN : N = k * P + r) (hr : r < P) : (N : Int).tdiv (P : Int) = (k : Int) := by
  have h1 : N / P = k := by
    rw [hN, Nat.mul_comm, Nat.mul_add_div (by omega), Nat.div_eq_of_lt hr, Nat.add_zero]
  rw [← h1]
  rfl
end Go.Proofs.Ybulkclou.Pg
