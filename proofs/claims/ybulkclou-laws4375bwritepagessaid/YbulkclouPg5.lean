/- The page writer's Write. -/
import Derived.Test.YbulkclouPg4
import Derived.Laws.OwnMore
namespace Go.Proofs.Ybulkclou.Pg
open Go.RowKit
set_option linter.unusedVariables false
set_option linter.unusedSimpArgs false
set_option maxRecDepth 100000

/-- What the loads of a drawn region read. -/
def C5 (a b d : Addr) (u v x : Value) (w : World) : Prop := w.cell? a = some u ∧ w.cell? b = some v ∧ w.cell? d = some x ∧ w.frozen? d = false

/-- append, at a step of a region that draws, its run known as an equation. -/
theorem step_append_run {P : Program} {ops : Array Oper} {o : Oper} {a : Act} {w : World} {K : Act → World → Prop} {Q : Exit → Act → World → Prop} {E : Prop} (hgd : o.guard = none) (s x : Operand) (t : TypeId)
    (ho : o.op = .call { callee := .builtin .append, args := #[s, x], argTypes := #[t, t] }) (v u : Value) (hs : a.eval s = v) (hx : a.eval x = u) (r : Value) (w1 : World)
    (hr : (Builtin.append_ #[t, t] o.type #[v, u]).run P w = .ok r w1) (h : K (a.put o.dst r) w1) : if Region.wanted o (yielded ops a.tmps) = true then Oper.wp P o a w K Q else E := by
  have hw : Region.wanted o (yielded ops a.tmps) = true := by simp [Region.wanted, hgd]
  rw [if_pos hw]
  unfold Oper.wp execOp
  simp only [ho, resolve, invoke, builtin, Sem.run_bind, Sem.run_pure, Result.andThen_ok, List.map_toArray, List.map_cons, List.map_nil, hs, hx, hr]
  exact h

theorem Failed.drewN {c : Cx} {e0 : Int} {D : List Int} {vD : Value} {xD : List Int} {w : World} (h : Failed c e0 D vD xD w) (n : Nat) : Failed c e0 D vD xD (w.drewN n) := by
  obtain ⟨vo, vd, vp, dv, k, pgs, bs, rest, h1, h2, h3, h4, h5, h6⟩ := h
  exact ⟨vo, vd, vp, dv, k, pgs, bs, rest, h1, h2, h3, h4, h5, h6.drewN n⟩

def slen : Value → Nat
  | .slice _ n _ => n
  | _ => 0

theorem take_more (D ys : List Int) (i q : Nat) : D ++ ys.take i ++ (ys.drop i).take q = D ++ ys.take (i + q) := by
  rw [List.append_assoc, List.take_add]

/-- The bytes of the chunk, where the walk is. -/
theorem chunk_news {w W : World} {base b off m i q : Nat} {ys : List Int} (hb : Below base W w) (hlt : b < base) (hm : ys.length = m) (hq : i + q ≤ m) (hc : ∀ j, j < m → W.cell? ⟨b, off + j, none⟩ = some (.int .u8 (ys.getD j 0))) :
    ∀ j u, (by8 ((ys.drop i).take q))[j]? = some u → w.cell? ((⟨b, off + i, none⟩ : Addr).add j) = some u := by
  intro j u hu
  have hj : j < q := by
    have := (List.getElem?_eq_some_iff.1 hu).1
    simp at this
    omega
  rw [Go.WideShapes.add_plain, hb.cell (by exact hlt), Nat.add_assoc, hc (i + j) (by omega)]
  simp [hj] at hu
  obtain ⟨x, hx, rfl⟩ := hu
  simp [hx]

set_option maxHeartbeats 4000000 in
theorem write (c : Cx) (ok : c.Ok) (e0 : Int) (D ys : List Int) (b off m cap : Nat) (a : Option Addr) (vD : Value) (xD : List Int) (w : World) (hst : Okay c e0 D vD xD w ∨ Failed c e0 D vD xD w)
    (hm : ys.length = m) (ha : 0 < m → a = some ⟨b, off, none⟩) (hb : 0 < m → b < c.base) (hcap : m ≤ cap) (hcap2 : cap ≤ 9223372036854775807)
    (hc : ∀ j, j < m → c.W.cell? ⟨b, off + j, none⟩ = some (.int .u8 (ys.getD j 0))) (hD : D.length + m ≤ 4096) :
    Calls Yba.prog 11 #[.pointer (some ⟨c.WB, 0, none⟩), .slice a m cap] w fun e w' =>
      (Okay c e0 (D ++ ys) vD xD w' ∧ e = .returned (.tuple #[.int .i64 m, .nilIface])) ∨ (Failed c e0 (D ++ ys) vD xD w' ∧ e = .returned (.tuple #[.int .i64 0, .iface 75 (.pointer (some ⟨c.EB, 0, none⟩))])) := by
  obtain ⟨i5, hi5, hz50, hz51, hz52⟩ := info_parts info5
  have HM : Hid (ys.length = m) := hm
  have HA : Hid ((0 < m → a = some ⟨b, off, none⟩) ∧ (0 < m → b < c.base)) := ⟨ha, hb⟩
  have HC : Hid (∀ j, j < m → c.W.cell? ⟨b, off + j, none⟩ = some (.int .u8 (ys.getD j 0))) := hc
  have HS : Hid (Okay c e0 D vD xD w ∨ Failed c e0 D vD xD w) := hst
  clear hm ha hb hc hst
  go_enter Yba.func11, Yba.ntmps11
  go_wp2
  go_loopw [1] (fun sv wr => ∃ (i n1 c1 : Nat) (a1 : Option Addr), i + n1 = m ∧ sv = .slice a1 n1 c1 ∧ n1 ≤ c1 ∧ c1 ≤ 9223372036854775807 ∧ (0 < n1 → a1 = some ⟨b, off + i, none⟩) ∧ (Okay c e0 (D ++ ys.take i) vD xD wr ∨ Failed c e0 (D ++ ys.take i) vD xD wr)) (fun sv _ => slen sv)
  case atStart => exact ⟨0, m, cap, a, by omega, rfl, hcap, hcap2, HA.out.1, by simpa using HS.out⟩
  case round =>
    obtain ⟨i, n1, c1, a1, hin, rfl, hn1, hc1, ha1, hS⟩ := hrel
    have HIN : Hid (i + n1 = m) := hin
    have hnm : n1 ≤ m := by omega
    clear hin
    rcases hS with hO | hFd
    · obtain ⟨vo, vd, vp, dv, k, pgs, bs, hk, hpl, hbl, hDe, hF, h⟩ := hO
      have f4 := five_cell4 h.wr
      by_cases hz : n1 = 0
      · subst hz
        obtain rfl : i = m := by have := HIN.out; omega
        go_wp2
        go_ret2
        exact .inl ⟨⟨vo, vd, vp, dv, k, pgs, bs, hk, hpl, hbl, by rw [← hDe, List.take_of_length_le (by have := HM.out; omega)], hF, h⟩, rfl⟩
      · obtain rfl := ha1 (by omega)
        have hpos : (0 : Int) < (n1 : Int) := by omega
        have hP2 := ok.P2
        obtain ⟨q0, hq0⟩ : ∃ q0 : Nat, (c.P : Int) - (bs.length : Int) = (q0 : Int) := ⟨c.P - bs.length, by omega⟩
        have hw0 : IntKind.i64.wrap ((c.P : Int) - (bs.length : Int)) = (q0 : Int) := by rw [hq0, IntKind.wrap_i64]; omega
        have HQ : Hid (bs.length + q0 = c.P) := by show bs.length + q0 = c.P; omega
        have hq1 : 1 ≤ q0 := by omega
        have hq16 : q0 ≤ 16 := by omega
        have hbl16 : bs.length ≤ 16 := by omega
        have hkP : k * c.P ≤ 5000 := by
          have h1 := congrArg List.length hDe
          have h2 := HM.out
          rw [List.length_append, List.length_append, flat_len pgs hpl, ← hk, List.length_take] at h1
          omega
        have HK : Hid (k = pgs.length ∧ D ++ ys.take i = pgs.flatten ++ bs) := ⟨hk, hDe⟩
        have H : Hid _ := h
        have hC0 : C5 ⟨c.WB, 0, none⟩ ⟨c.FB, 5, none⟩ ⟨c.WB, 1, none⟩ (.pointer (some ⟨c.FB, 0, none⟩)) (.int .i64 c.P) (.slice (some ⟨c.BB, 0, none⟩) bs.length c.P) wr.drew := ⟨five_cell0 h.wr, FC_cell5 h.find, five_cell1 h.wr, blk_free h.wr⟩
        clear hq0 hk hDe h ha1 hbl
        go_wp2
        by_cases hqn : n1 < q0
        · have hmin : ¬ (q0 < n1) := by omega
          refine wp_region_late 17 (C5 ⟨c.WB, 0, none⟩ ⟨c.FB, 5, none⟩ ⟨c.WB, 1, none⟩ (.pointer (some ⟨c.FB, 0, none⟩)) (.int .i64 c.P) (.slice (some ⟨c.BB, 0, none⟩) bs.length c.P)) (by kernel_rfl) hC0 (fun hC => ?_)
          refine late_pure (i := 0) (v := ?qv1) (oi := ?qo1) ?qh1 (by kernel_rfl) (by kernel_rfl) (by kernel_rfl) (by decide) ?qq1 (Or.inl ⟨?qw1, ?qy1⟩) (by assumption) ?qr1
          case qh1 => (simp only [List.getElem?_toArray, List.getElem?_cons_succ, List.getElem?_cons_zero]; exact rfl)
          case qq1 => exact fun _ _ _ h => h
          case qw1 => rfl
          case qy1 => (intro wx _; go_simp; try with_reducible rfl)
          try simp only [Act.put, List.setIfInBounds_toArray, List.set_cons_zero, List.set_cons_succ]
          refine late_pure (i := 1) (v := ?qv2) (oi := ?qo2) ?qh2 (by kernel_rfl) (by kernel_rfl) (by kernel_rfl) (by decide) ?qq2 (Or.inl ⟨?qw2, ?qy2⟩) (by assumption) ?qr2
          case qh2 => (simp only [List.getElem?_toArray, List.getElem?_cons_succ, List.getElem?_cons_zero]; exact rfl)
          case qq2 => exact fun _ _ _ h => h
          case qw2 => rfl
          case qy2 => (intro wx _; go_simp; try with_reducible rfl)
          try simp only [Act.put, List.setIfInBounds_toArray, List.set_cons_zero, List.set_cons_succ]
          refine late_pure (i := 2) (v := ?qv3) (oi := ?qo3) ?qh3 (by kernel_rfl) (by kernel_rfl) (by kernel_rfl) (by decide) ?qq3 (Or.inl ⟨?qw3, ?qy3⟩) (by assumption) ?qr3
          case qh3 => (simp only [List.getElem?_toArray, List.getElem?_cons_succ, List.getElem?_cons_zero]; exact rfl)
          case qq3 => exact fun _ _ _ h => h
          case qw3 => rfl
          case qy3 => (intro wx _; go_simp; try with_reducible rfl)
          try simp only [Act.put, List.setIfInBounds_toArray, List.set_cons_zero, List.set_cons_succ]
          refine late_pure (i := 3) (v := ?qv4) (oi := ?qo4) ?qh4 (by kernel_rfl) (by kernel_rfl) (by kernel_rfl) (by decide) ?qq4 (Or.inl ⟨?qw4, ?qy4⟩) (by assumption) ?qr4
          case qh4 => (simp only [List.getElem?_toArray, List.getElem?_cons_succ, List.getElem?_cons_zero]; exact rfl)
          case qq4 => exact fun _ _ _ h => h
          case qw4 => rfl
          case qy4 => (intro wx _; go_simp; try with_reducible rfl)
          try simp only [Act.put, List.setIfInBounds_toArray, List.set_cons_zero, List.set_cons_succ]
          refine late_pure (i := 4) (v := ?qv5) (oi := ?qo5) ?qh5 (by kernel_rfl) (by kernel_rfl) (by kernel_rfl) (by decide) ?qq5 (Or.inl ⟨?qw5, ?qy5⟩) (by assumption) ?qr5
          case qh5 => (simp only [List.getElem?_toArray, List.getElem?_cons_succ, List.getElem?_cons_zero]; exact rfl)
          case qq5 => exact fun _ _ _ h => h
          case qw5 => rfl
          case qy5 => (intro wx _; go_simp; try with_reducible rfl)
          try simp only [Act.put, List.setIfInBounds_toArray, List.set_cons_zero, List.set_cons_succ]
          refine late_load (i := 5) (v := ?qv6) (oi := ?qo6) ?qh6 (by kernel_rfl) (by kernel_rfl) (by kernel_rfl) (by kernel_rfl) (by kernel_rfl) (by decide) ?qq6 (Or.inl ⟨?qw6, ?qy6⟩) (by assumption) ?qr6
          case qh6 => (simp only [List.getElem?_toArray, List.getElem?_cons_succ, List.getElem?_cons_zero]; exact rfl)
          case qq6 => exact fun _ _ _ h => h
          case qw6 => rfl
          case qy6 => (intro wx hSw; (try dsimp only at hSw); obtain ⟨s1, s2, s3, s4⟩ := hSw; go_simp; try with_reducible rfl)
          try simp only [Act.put, List.setIfInBounds_toArray, List.set_cons_zero, List.set_cons_succ]
          refine late_pure (i := 6) (v := ?qv7) (oi := ?qo7) ?qh7 (by kernel_rfl) (by kernel_rfl) (by kernel_rfl) (by decide) ?qq7 (Or.inl ⟨?qw7, ?qy7⟩) (by assumption) ?qr7
          case qh7 => (simp only [List.getElem?_toArray, List.getElem?_cons_succ, List.getElem?_cons_zero]; exact rfl)
          case qq7 => exact fun _ _ _ h => h
          case qw7 => rfl
          case qy7 => (intro wx _; go_simp; try with_reducible rfl)
          try simp only [Act.put, List.setIfInBounds_toArray, List.set_cons_zero, List.set_cons_succ]
          refine late_pure (i := 7) (v := ?qv8) (oi := ?qo8) ?qh8 (by kernel_rfl) (by kernel_rfl) (by kernel_rfl) (by decide) ?qq8 (Or.inl ⟨?qw8, ?qy8⟩) (by assumption) ?qr8
          case qh8 => (simp only [List.getElem?_toArray, List.getElem?_cons_succ, List.getElem?_cons_zero]; exact rfl)
          case qq8 => exact fun _ _ _ h => h
          case qw8 => rfl
          case qy8 => (intro wx _; go_simp; try with_reducible rfl)
          try simp only [Act.put, List.setIfInBounds_toArray, List.set_cons_zero, List.set_cons_succ]
          refine late_load (i := 8) (v := ?qv9) (oi := ?qo9) ?qh9 (by kernel_rfl) (by kernel_rfl) (by kernel_rfl) (by kernel_rfl) (by kernel_rfl) (by decide) ?qq9 (Or.inl ⟨?qw9, ?qy9⟩) (by assumption) ?qr9
          case qh9 => (simp only [List.getElem?_toArray, List.getElem?_cons_succ, List.getElem?_cons_zero]; exact rfl)
          case qq9 => exact fun _ _ _ h => h
          case qw9 => rfl
          case qy9 => (intro wx hSw; (try dsimp only at hSw); obtain ⟨s1, s2, s3, s4⟩ := hSw; go_simp; try with_reducible rfl)
          try simp only [Act.put, List.setIfInBounds_toArray, List.set_cons_zero, List.set_cons_succ]
          refine late_pure (i := 9) (v := ?qv10) (oi := ?qo10) ?qh10 (by kernel_rfl) (by kernel_rfl) (by kernel_rfl) (by decide) ?qq10 (Or.inl ⟨?qw10, ?qy10⟩) (by assumption) ?qr10
          case qh10 => (simp only [List.getElem?_toArray, List.getElem?_cons_succ, List.getElem?_cons_zero]; exact rfl)
          case qq10 => exact fun _ _ _ h => h
          case qw10 => rfl
          case qy10 => (intro wx _; go_simp; try with_reducible rfl)
          try simp only [Act.put, List.setIfInBounds_toArray, List.set_cons_zero, List.set_cons_succ]
          refine late_pure (i := 10) (v := ?qv11) (oi := ?qo11) ?qh11 (by kernel_rfl) (by kernel_rfl) (by kernel_rfl) (by decide) ?qq11 (Or.inl ⟨?qw11, ?qy11⟩) (by assumption) ?qr11
          case qh11 => (simp only [List.getElem?_toArray, List.getElem?_cons_succ, List.getElem?_cons_zero]; exact rfl)
          case qq11 => exact fun _ _ _ h => h
          case qw11 => rfl
          case qy11 => (intro wx _; go_simp; try with_reducible rfl)
          try simp only [Act.put, List.setIfInBounds_toArray, List.set_cons_zero, List.set_cons_succ]
          refine late_pure (i := 11) (v := ?qv12) (oi := ?qo12) ?qh12 (by kernel_rfl) (by kernel_rfl) (by kernel_rfl) (by decide) ?qq12 (Or.inl ⟨?qw12, ?qy12⟩) (by assumption) ?qr12
          case qh12 => (simp only [List.getElem?_toArray, List.getElem?_cons_succ, List.getElem?_cons_zero]; exact rfl)
          case qq12 => exact fun _ _ _ h => h
          case qw12 => rfl
          case qy12 => (intro wx _; go_simp; try with_reducible rfl)
          try simp only [Act.put, List.setIfInBounds_toArray, List.set_cons_zero, List.set_cons_succ]
          refine late_load (i := 12) (v := ?qv13) (oi := ?qo13) ?qh13 (by kernel_rfl) (by kernel_rfl) (by kernel_rfl) (by kernel_rfl) (by kernel_rfl) (by decide) ?qq13 (Or.inl ⟨?qw13, ?qy13⟩) (by assumption) ?qr13
          case qh13 => (simp only [List.getElem?_toArray, List.getElem?_cons_succ, List.getElem?_cons_zero]; exact rfl)
          case qq13 => exact fun _ _ _ h => h
          case qw13 => rfl
          case qy13 => (intro wx hSw; (try dsimp only at hSw); obtain ⟨s1, s2, s3, s4⟩ := hSw; go_simp; try with_reducible rfl)
          try simp only [Act.put, List.setIfInBounds_toArray, List.set_cons_zero, List.set_cons_succ]
          refine late_pure (i := 13) (v := ?qv14) (oi := ?qo14) ?qh14 (by kernel_rfl) (by kernel_rfl) (by kernel_rfl) (by decide) ?qq14 (Or.inl ⟨?qw14, ?qy14⟩) (by assumption) ?qr14
          case qh14 => (simp only [List.getElem?_toArray, List.getElem?_cons_succ, List.getElem?_cons_zero]; exact rfl)
          case qq14 => exact fun _ _ _ h => h
          case qw14 => rfl
          case qy14 => (intro wx _; go_simp; try with_reducible rfl)
          try simp only [Act.put, List.setIfInBounds_toArray, List.set_cons_zero, List.set_cons_succ]
          refine late_pure (i := 14) (v := ?qv15) (oi := ?qo15) ?qh15 (by kernel_rfl) (by kernel_rfl) (by kernel_rfl) (by decide) ?qq15 (Or.inl ⟨?qw15, ?qy15⟩) (by assumption) ?qr15
          case qh15 => (simp only [List.getElem?_toArray, List.getElem?_cons_succ, List.getElem?_cons_zero]; exact rfl)
          case qq15 => exact fun _ _ _ h => h
          case qw15 => rfl
          case qy15 => (intro wx _; go_simp; try with_reducible rfl)
          try simp only [Act.put, List.setIfInBounds_toArray, List.set_cons_zero, List.set_cons_succ]
          refine late_pure (i := 15) (v := ?qv16) (oi := ?qo16) ?qh16 (by kernel_rfl) (by kernel_rfl) (by kernel_rfl) (by decide) ?qq16 (Or.inl ⟨?qw16, ?qy16⟩) (by assumption) ?qr16
          case qh16 => (simp only [List.getElem?_toArray, List.getElem?_cons_succ, List.getElem?_cons_zero]; exact rfl)
          case qq16 => exact fun _ _ _ h => h
          case qw16 => rfl
          case qy16 => (intro wx _; go_simp; try with_reducible rfl)
          try simp only [Act.put, List.setIfInBounds_toArray, List.set_cons_zero, List.set_cons_succ]
          refine late_pure (i := 16) (v := ?qv17) (oi := ?qo17) ?qh17 (by kernel_rfl) (by kernel_rfl) (by kernel_rfl) (by decide) ?qq17 (Or.inl ⟨?qw17, ?qy17⟩) (by assumption) ?qr17
          case qh17 => (simp only [List.getElem?_toArray, List.getElem?_cons_succ, List.getElem?_cons_zero]; exact rfl)
          case qq17 => exact fun _ _ _ h => h
          case qw17 => rfl
          case qy17 => (intro wx _; go_simp; try with_reducible rfl)
          try simp only [Act.put, List.setIfInBounds_toArray, List.set_cons_zero, List.set_cons_succ]
          refine late_done (by kernel_rfl) ?_ _
          clear hC hC0
          have hqc : n1 ≤ c1 := by omega
          have hqn2 : n1 ≤ n1 := by omega
          have hqnI : (n1 : Int) ≤ (n1 : Int) := by omega
          have hlen : ((ys.drop i).take n1).length = n1 := by have := HM.out; have := HIN.out; simp; omega
          have HL : Hid _ := hlen
          have hC1 : C2 ⟨c.WB, 1, none⟩ (.slice (some ⟨c.BB, 0, none⟩) bs.length c.P) wr.drew.drew := ⟨five_cell1 H.out.wr, blk_free H.out.wr⟩
          obtain ⟨w1, hrun, how, hgr⟩ := run_append_fits (P := Yba.prog) wr.drew.drew c.base 33 33 5 i5 1 Yba.underlying33 hi5 hz51 c.BB bs.length c.P (by8 bs) H.out.drew.drew.ob ⟨b, off + i, none⟩ n1 c1 (by8 ((ys.drop i).take n1)) (by simpa using hlen) (chunk_news H.out.drew.drew.bel (HA.out.2 (by omega)) HM.out (by have := HIN.out; omega) HC.out) (one8 _) (by have := HQ.out; omega)
          have HR : Hid _ := hrun
          clear hrun hlen
          go_wp2
          refine wp_region_late 14 (C2 ⟨c.WB, 1, none⟩ (.slice (some ⟨c.BB, 0, none⟩) bs.length c.P)) (by kernel_rfl) hC1 (fun hC => ?_)
          refine late_pure (i := 0) (v := ?qv18) (oi := ?qo18) ?qh18 (by kernel_rfl) (by kernel_rfl) (by kernel_rfl) (by decide) ?qq18 (Or.inl ⟨?qw18, ?qy18⟩) (by assumption) ?qr18
          case qh18 => (simp only [List.getElem?_toArray, List.getElem?_cons_succ, List.getElem?_cons_zero]; exact rfl)
          case qq18 => exact fun _ _ _ h => h
          case qw18 => rfl
          case qy18 => (intro wx _; go_simp; try with_reducible rfl)
          try simp only [Act.put, List.setIfInBounds_toArray, List.set_cons_zero, List.set_cons_succ]
          refine late_pure (i := 1) (v := ?qv19) (oi := ?qo19) ?qh19 (by kernel_rfl) (by kernel_rfl) (by kernel_rfl) (by decide) ?qq19 (Or.inl ⟨?qw19, ?qy19⟩) (by assumption) ?qr19
          case qh19 => (simp only [List.getElem?_toArray, List.getElem?_cons_succ, List.getElem?_cons_zero]; exact rfl)
          case qq19 => exact fun _ _ _ h => h
          case qw19 => rfl
          case qy19 => (intro wx _; go_simp; try with_reducible rfl)
          try simp only [Act.put, List.setIfInBounds_toArray, List.set_cons_zero, List.set_cons_succ]
          refine late_pure (i := 2) (v := ?qv20) (oi := ?qo20) ?qh20 (by kernel_rfl) (by kernel_rfl) (by kernel_rfl) (by decide) ?qq20 (Or.inl ⟨?qw20, ?qy20⟩) (by assumption) ?qr20
          case qh20 => (simp only [List.getElem?_toArray, List.getElem?_cons_succ, List.getElem?_cons_zero]; exact rfl)
          case qq20 => exact fun _ _ _ h => h
          case qw20 => rfl
          case qy20 => (intro wx _; go_simp; try with_reducible rfl)
          try simp only [Act.put, List.setIfInBounds_toArray, List.set_cons_zero, List.set_cons_succ]
          refine late_pure (i := 3) (v := ?qv21) (oi := ?qo21) ?qh21 (by kernel_rfl) (by kernel_rfl) (by kernel_rfl) (by decide) ?qq21 (Or.inl ⟨?qw21, ?qy21⟩) (by assumption) ?qr21
          case qh21 => (simp only [List.getElem?_toArray, List.getElem?_cons_succ, List.getElem?_cons_zero]; exact rfl)
          case qq21 => exact fun _ _ _ h => h
          case qw21 => rfl
          case qy21 => (intro wx _; go_simp; try with_reducible rfl)
          try simp only [Act.put, List.setIfInBounds_toArray, List.set_cons_zero, List.set_cons_succ]
          refine late_load (i := 4) (v := ?qv22) (oi := ?qo22) ?qh22 (by kernel_rfl) (by kernel_rfl) (by kernel_rfl) (by kernel_rfl) (by kernel_rfl) (by decide) ?qq22 (Or.inl ⟨?qw22, ?qy22⟩) (by assumption) ?qr22
          case qh22 => (simp only [List.getElem?_toArray, List.getElem?_cons_succ, List.getElem?_cons_zero]; exact rfl)
          case qq22 => exact fun _ _ _ h => h
          case qw22 => rfl
          case qy22 => (intro wx hSw; (try dsimp only at hSw); obtain ⟨s1, s2⟩ := hSw; go_simp; try with_reducible rfl)
          try simp only [Act.put, List.setIfInBounds_toArray, List.set_cons_zero, List.set_cons_succ]
          refine late_pure (i := 5) (v := ?qv23) (oi := ?qo23) ?qh23 (by kernel_rfl) (by kernel_rfl) (by kernel_rfl) (by decide) ?qq23 (Or.inl ⟨?qw23, ?qy23⟩) (by assumption) ?qr23
          case qh23 => (simp only [List.getElem?_toArray, List.getElem?_cons_succ, List.getElem?_cons_zero]; exact rfl)
          case qq23 => exact fun _ _ _ h => h
          case qw23 => rfl
          case qy23 => (intro wx _; go_simp; try with_reducible rfl)
          try simp only [Act.put, List.setIfInBounds_toArray, List.set_cons_zero, List.set_cons_succ]
          refine late_pure (i := 6) (v := ?qv24) (oi := ?qo24) ?qh24 (by kernel_rfl) (by kernel_rfl) (by kernel_rfl) (by decide) ?qq24 (Or.inl ⟨?qw24, ?qy24⟩) (by assumption) ?qr24
          case qh24 => (simp only [List.getElem?_toArray, List.getElem?_cons_succ, List.getElem?_cons_zero]; exact rfl)
          case qq24 => exact fun _ _ _ h => h
          case qw24 => rfl
          case qy24 => (intro wx _; go_simp; try with_reducible rfl)
          try simp only [Act.put, List.setIfInBounds_toArray, List.set_cons_zero, List.set_cons_succ]
          refine late_pure (i := 7) (v := ?qv25) (oi := ?qo25) ?qh25 (by kernel_rfl) (by kernel_rfl) (by kernel_rfl) (by decide) ?qq25 (Or.inl ⟨?qw25, ?qy25⟩) (by assumption) ?qr25
          case qh25 => (simp only [List.getElem?_toArray, List.getElem?_cons_succ, List.getElem?_cons_zero]; exact rfl)
          case qq25 => exact fun _ _ _ h => h
          case qw25 => rfl
          case qy25 => (intro wx _; go_simp; try with_reducible rfl)
          try simp only [Act.put, List.setIfInBounds_toArray, List.set_cons_zero, List.set_cons_succ]
          refine late_pure (i := 9) (v := ?qv26) (oi := ?qo26) ?qh26 (by kernel_rfl) (by kernel_rfl) (by kernel_rfl) (by decide) ?qq26 (Or.inl ⟨?qw26, ?qy26⟩) (by assumption) ?qr26
          case qh26 => (simp only [List.getElem?_toArray, List.getElem?_cons_succ, List.getElem?_cons_zero]; exact rfl)
          case qq26 => exact fun _ _ _ h => h
          case qw26 => rfl
          case qy26 => (intro wx _; go_simp; try with_reducible rfl)
          try simp only [Act.put, List.setIfInBounds_toArray, List.set_cons_zero, List.set_cons_succ]
          refine late_pure (i := 10) (v := ?qv27) (oi := ?qo27) ?qh27 (by kernel_rfl) (by kernel_rfl) (by kernel_rfl) (by decide) ?qq27 (Or.inl ⟨?qw27, ?qy27⟩) (by assumption) ?qr27
          case qh27 => (simp only [List.getElem?_toArray, List.getElem?_cons_succ, List.getElem?_cons_zero]; exact rfl)
          case qq27 => exact fun _ _ _ h => h
          case qw27 => rfl
          case qy27 => (intro wx _; go_simp; try with_reducible rfl)
          try simp only [Act.put, List.setIfInBounds_toArray, List.set_cons_zero, List.set_cons_succ]
          refine late_pure (i := 11) (v := ?qv28) (oi := ?qo28) ?qh28 (by kernel_rfl) (by kernel_rfl) (by kernel_rfl) (by decide) ?qq28 (Or.inl ⟨?qw28, ?qy28⟩) (by assumption) ?qr28
          case qh28 => (simp only [List.getElem?_toArray, List.getElem?_cons_succ, List.getElem?_cons_zero]; exact rfl)
          case qq28 => exact fun _ _ _ h => h
          case qw28 => rfl
          case qy28 => (intro wx _; go_simp; try with_reducible rfl)
          try simp only [Act.put, List.setIfInBounds_toArray, List.set_cons_zero, List.set_cons_succ]
          refine late_one (i := 8) (o := ?qo29) (by kernel_rfl) ?qh29 (fun K hK => ?qr29)
          case qh29 => (simp only [List.getElem?_toArray, List.getElem?_cons_succ, List.getElem?_cons_zero]; exact rfl)
          refine step_append_run (by rfl) (.tmp 40) (.tmp 43) 33 (by rfl) (.slice (some ⟨c.BB, 0, none⟩) bs.length c.P) (.slice (some ⟨b, off + i, none⟩) n1 c1) (by rfl) (by rfl) _ w1 HR.out ?_
          have hwr1 := kp_own (T := 69) H.out.drew.drew.ob hgr (by decide) _ _ H.out.drew.drew.wr
          have hC2 : C2 ⟨c.WB, 1, none⟩ (.slice (some ⟨c.BB, 0, none⟩) bs.length c.P) w1 := ⟨five_cell1 hwr1, blk_free hwr1⟩
          refine hK.out _ _ hC2 ?_
          clear hK K
          try simp only [Act.put, List.setIfInBounds_toArray, List.set_cons_zero, List.set_cons_succ]
          have hC6 := hC2
          obtain ⟨s1, s2⟩ := hC6
          have h3 := H.out.drew.drew.setB (n := bs.length + n1) (bs' := bs ++ (ys.drop i).take n1) hgr (by have := HL.out; simp at this; simp; omega) (by simpa using how)
          have H3 : Hid _ := h3
          clear h3 hwr1 how hgr hC hC1 HR
          refine late_pure (i := 12) (v := ?qv30) (oi := ?qo30) ?qh30 (by kernel_rfl) (by kernel_rfl) (by kernel_rfl) (by decide) ?qq30 (Or.inl ⟨?qw30, ?qy30⟩) (by assumption) ?qr30
          case qh30 => (simp only [List.getElem?_toArray, List.getElem?_cons_succ, List.getElem?_cons_zero]; exact rfl)
          case qq30 => exact fun _ _ _ h => h
          case qw30 => rfl
          case qy30 => (intro wx _; go_simp; try with_reducible rfl)
          try simp only [Act.put, List.setIfInBounds_toArray, List.set_cons_zero, List.set_cons_succ]
          refine late_pure (i := 13) (v := ?qv31) (oi := ?qo31) ?qh31 (by kernel_rfl) (by kernel_rfl) (by kernel_rfl) (by decide) ?qq31 (Or.inl ⟨?qw31, ?qy31⟩) (by assumption) ?qr31
          case qh31 => (simp only [List.getElem?_toArray, List.getElem?_cons_succ, List.getElem?_cons_zero]; exact rfl)
          case qq31 => exact fun _ _ _ h => h
          case qw31 => rfl
          case qy31 => (intro wx _; go_simp; try with_reducible rfl)
          try simp only [Act.put, List.setIfInBounds_toArray, List.set_cons_zero, List.set_cons_succ]
          refine late_rest 14 (by kernel_rfl) (by decide) (o := ?qo32) ?qh32 (fun K hK => ?qr32)
          case qh32 => (simp only [List.getElem?_toArray, List.getElem?_cons_succ, List.getElem?_cons_zero]; exact rfl)
          go_simp
          refine hK.out _ _ ?_
          clear hK K
          try simp only [Act.put, List.setIfInBounds_toArray, List.set_cons_zero, List.set_cons_succ]
          refine late_rest 15 (by kernel_rfl) (by decide) (o := ?qo33) ?qh33 (fun K hK => ?qr33)
          case qh33 => (simp only [List.getElem?_toArray, List.getElem?_cons_succ, List.getElem?_cons_zero]; exact rfl)
          go_simp
          refine hK.out _ _ ?_
          clear hK K
          try simp only [Act.put, List.setIfInBounds_toArray, List.set_cons_zero, List.set_cons_succ]
          refine late_done (by kernel_rfl) ?_ _
          clear s1 s2 hC2
          generalize hAN : (if c1 = n1 then (some ⟨b, off + i, none⟩ : Option Addr) else some ⟨b, off + i + n1, none⟩) = aN
          have HAN : Hid _ := hAN
          clear hAN
          have h3 := H3.out
          generalize w1.setCell ⟨c.WB, 1, none⟩ (.slice (some ⟨c.BB, 0, none⟩) (bs.length + n1) c.P) = w2 at h3 ⊢
          have z1 : w2.cell? ⟨c.WB, 1, none⟩ = some (.slice (some ⟨c.BB, 0, none⟩) (bs.length + n1) c.P) := by have := five_cell1 h3.wr; rwa [List.length_append, HL.out] at this
          have z0 := five_cell0 h3.wr
          have z5 := FC_cell5 h3.find
          have H4 : Hid _ := h3
          clear h3 H3 H f4
          have hbe : ((bs.length : Int) + (n1 : Int) == (c.P : Int)) = false := by have := HQ.out; simp; omega
          have hbe2 : ¬ ((bs.length : Int) + (n1 : Int) = (c.P : Int)) := by have := HQ.out; omega
          go_wp2
          go_quiet (fail)
          go_wp2
          go_roundw
          case rel => exact ⟨i + n1, 0, c1 - n1, _, by have := HIN.out; omega, rfl, Nat.zero_le _, by omega, fun h => absurd h (by omega), .inl ⟨vo, vd, vp, dv, k, pgs, bs ++ (ys.drop i).take n1, HK.out.1, hpl, by have := HL.out; have := HQ.out; rw [List.length_append]; omega, by rw [← take_more, HK.out.2, List.append_assoc], hF, H4.out.drewN _⟩⟩
          case measure => simp [slen]; omega
        · have hmin : (if q0 < n1 then (q0 : Int) else (n1 : Int)) = (q0 : Int) := by split <;> omega
          refine wp_region_late 17 (C5 ⟨c.WB, 0, none⟩ ⟨c.FB, 5, none⟩ ⟨c.WB, 1, none⟩ (.pointer (some ⟨c.FB, 0, none⟩)) (.int .i64 c.P) (.slice (some ⟨c.BB, 0, none⟩) bs.length c.P)) (by kernel_rfl) hC0 (fun hC => ?_)
          refine late_pure (i := 0) (v := ?qv34) (oi := ?qo34) ?qh34 (by kernel_rfl) (by kernel_rfl) (by kernel_rfl) (by decide) ?qq34 (Or.inl ⟨?qw34, ?qy34⟩) (by assumption) ?qr34
          case qh34 => (simp only [List.getElem?_toArray, List.getElem?_cons_succ, List.getElem?_cons_zero]; exact rfl)
          case qq34 => exact fun _ _ _ h => h
          case qw34 => rfl
          case qy34 => (intro wx _; go_simp; try with_reducible rfl)
          try simp only [Act.put, List.setIfInBounds_toArray, List.set_cons_zero, List.set_cons_succ]
          refine late_pure (i := 1) (v := ?qv35) (oi := ?qo35) ?qh35 (by kernel_rfl) (by kernel_rfl) (by kernel_rfl) (by decide) ?qq35 (Or.inl ⟨?qw35, ?qy35⟩) (by assumption) ?qr35
          case qh35 => (simp only [List.getElem?_toArray, List.getElem?_cons_succ, List.getElem?_cons_zero]; exact rfl)
          case qq35 => exact fun _ _ _ h => h
          case qw35 => rfl
          case qy35 => (intro wx _; go_simp; try with_reducible rfl)
          try simp only [Act.put, List.setIfInBounds_toArray, List.set_cons_zero, List.set_cons_succ]
          refine late_pure (i := 2) (v := ?qv36) (oi := ?qo36) ?qh36 (by kernel_rfl) (by kernel_rfl) (by kernel_rfl) (by decide) ?qq36 (Or.inl ⟨?qw36, ?qy36⟩) (by assumption) ?qr36
          case qh36 => (simp only [List.getElem?_toArray, List.getElem?_cons_succ, List.getElem?_cons_zero]; exact rfl)
          case qq36 => exact fun _ _ _ h => h
          case qw36 => rfl
          case qy36 => (intro wx _; go_simp; try with_reducible rfl)
          try simp only [Act.put, List.setIfInBounds_toArray, List.set_cons_zero, List.set_cons_succ]
          refine late_pure (i := 3) (v := ?qv37) (oi := ?qo37) ?qh37 (by kernel_rfl) (by kernel_rfl) (by kernel_rfl) (by decide) ?qq37 (Or.inl ⟨?qw37, ?qy37⟩) (by assumption) ?qr37
          case qh37 => (simp only [List.getElem?_toArray, List.getElem?_cons_succ, List.getElem?_cons_zero]; exact rfl)
          case qq37 => exact fun _ _ _ h => h
          case qw37 => rfl
          case qy37 => (intro wx _; go_simp; try with_reducible rfl)
          try simp only [Act.put, List.setIfInBounds_toArray, List.set_cons_zero, List.set_cons_succ]
          refine late_pure (i := 4) (v := ?qv38) (oi := ?qo38) ?qh38 (by kernel_rfl) (by kernel_rfl) (by kernel_rfl) (by decide) ?qq38 (Or.inl ⟨?qw38, ?qy38⟩) (by assumption) ?qr38
          case qh38 => (simp only [List.getElem?_toArray, List.getElem?_cons_succ, List.getElem?_cons_zero]; exact rfl)
          case qq38 => exact fun _ _ _ h => h
          case qw38 => rfl
          case qy38 => (intro wx _; go_simp; try with_reducible rfl)
          try simp only [Act.put, List.setIfInBounds_toArray, List.set_cons_zero, List.set_cons_succ]
          refine late_load (i := 5) (v := ?qv39) (oi := ?qo39) ?qh39 (by kernel_rfl) (by kernel_rfl) (by kernel_rfl) (by kernel_rfl) (by kernel_rfl) (by decide) ?qq39 (Or.inl ⟨?qw39, ?qy39⟩) (by assumption) ?qr39
          case qh39 => (simp only [List.getElem?_toArray, List.getElem?_cons_succ, List.getElem?_cons_zero]; exact rfl)
          case qq39 => exact fun _ _ _ h => h
          case qw39 => rfl
          case qy39 => (intro wx hSw; (try dsimp only at hSw); obtain ⟨s1, s2, s3, s4⟩ := hSw; go_simp; try with_reducible rfl)
          try simp only [Act.put, List.setIfInBounds_toArray, List.set_cons_zero, List.set_cons_succ]
          refine late_pure (i := 6) (v := ?qv40) (oi := ?qo40) ?qh40 (by kernel_rfl) (by kernel_rfl) (by kernel_rfl) (by decide) ?qq40 (Or.inl ⟨?qw40, ?qy40⟩) (by assumption) ?qr40
          case qh40 => (simp only [List.getElem?_toArray, List.getElem?_cons_succ, List.getElem?_cons_zero]; exact rfl)
          case qq40 => exact fun _ _ _ h => h
          case qw40 => rfl
          case qy40 => (intro wx _; go_simp; try with_reducible rfl)
          try simp only [Act.put, List.setIfInBounds_toArray, List.set_cons_zero, List.set_cons_succ]
          refine late_pure (i := 7) (v := ?qv41) (oi := ?qo41) ?qh41 (by kernel_rfl) (by kernel_rfl) (by kernel_rfl) (by decide) ?qq41 (Or.inl ⟨?qw41, ?qy41⟩) (by assumption) ?qr41
          case qh41 => (simp only [List.getElem?_toArray, List.getElem?_cons_succ, List.getElem?_cons_zero]; exact rfl)
          case qq41 => exact fun _ _ _ h => h
          case qw41 => rfl
          case qy41 => (intro wx _; go_simp; try with_reducible rfl)
          try simp only [Act.put, List.setIfInBounds_toArray, List.set_cons_zero, List.set_cons_succ]
          refine late_load (i := 8) (v := ?qv42) (oi := ?qo42) ?qh42 (by kernel_rfl) (by kernel_rfl) (by kernel_rfl) (by kernel_rfl) (by kernel_rfl) (by decide) ?qq42 (Or.inl ⟨?qw42, ?qy42⟩) (by assumption) ?qr42
          case qh42 => (simp only [List.getElem?_toArray, List.getElem?_cons_succ, List.getElem?_cons_zero]; exact rfl)
          case qq42 => exact fun _ _ _ h => h
          case qw42 => rfl
          case qy42 => (intro wx hSw; (try dsimp only at hSw); obtain ⟨s1, s2, s3, s4⟩ := hSw; go_simp; try with_reducible rfl)
          try simp only [Act.put, List.setIfInBounds_toArray, List.set_cons_zero, List.set_cons_succ]
          refine late_pure (i := 9) (v := ?qv43) (oi := ?qo43) ?qh43 (by kernel_rfl) (by kernel_rfl) (by kernel_rfl) (by decide) ?qq43 (Or.inl ⟨?qw43, ?qy43⟩) (by assumption) ?qr43
          case qh43 => (simp only [List.getElem?_toArray, List.getElem?_cons_succ, List.getElem?_cons_zero]; exact rfl)
          case qq43 => exact fun _ _ _ h => h
          case qw43 => rfl
          case qy43 => (intro wx _; go_simp; try with_reducible rfl)
          try simp only [Act.put, List.setIfInBounds_toArray, List.set_cons_zero, List.set_cons_succ]
          refine late_pure (i := 10) (v := ?qv44) (oi := ?qo44) ?qh44 (by kernel_rfl) (by kernel_rfl) (by kernel_rfl) (by decide) ?qq44 (Or.inl ⟨?qw44, ?qy44⟩) (by assumption) ?qr44
          case qh44 => (simp only [List.getElem?_toArray, List.getElem?_cons_succ, List.getElem?_cons_zero]; exact rfl)
          case qq44 => exact fun _ _ _ h => h
          case qw44 => rfl
          case qy44 => (intro wx _; go_simp; try with_reducible rfl)
          try simp only [Act.put, List.setIfInBounds_toArray, List.set_cons_zero, List.set_cons_succ]
          refine late_pure (i := 11) (v := ?qv45) (oi := ?qo45) ?qh45 (by kernel_rfl) (by kernel_rfl) (by kernel_rfl) (by decide) ?qq45 (Or.inl ⟨?qw45, ?qy45⟩) (by assumption) ?qr45
          case qh45 => (simp only [List.getElem?_toArray, List.getElem?_cons_succ, List.getElem?_cons_zero]; exact rfl)
          case qq45 => exact fun _ _ _ h => h
          case qw45 => rfl
          case qy45 => (intro wx _; go_simp; try with_reducible rfl)
          try simp only [Act.put, List.setIfInBounds_toArray, List.set_cons_zero, List.set_cons_succ]
          refine late_load (i := 12) (v := ?qv46) (oi := ?qo46) ?qh46 (by kernel_rfl) (by kernel_rfl) (by kernel_rfl) (by kernel_rfl) (by kernel_rfl) (by decide) ?qq46 (Or.inl ⟨?qw46, ?qy46⟩) (by assumption) ?qr46
          case qh46 => (simp only [List.getElem?_toArray, List.getElem?_cons_succ, List.getElem?_cons_zero]; exact rfl)
          case qq46 => exact fun _ _ _ h => h
          case qw46 => rfl
          case qy46 => (intro wx hSw; (try dsimp only at hSw); obtain ⟨s1, s2, s3, s4⟩ := hSw; go_simp; try with_reducible rfl)
          try simp only [Act.put, List.setIfInBounds_toArray, List.set_cons_zero, List.set_cons_succ]
          refine late_pure (i := 13) (v := ?qv47) (oi := ?qo47) ?qh47 (by kernel_rfl) (by kernel_rfl) (by kernel_rfl) (by decide) ?qq47 (Or.inl ⟨?qw47, ?qy47⟩) (by assumption) ?qr47
          case qh47 => (simp only [List.getElem?_toArray, List.getElem?_cons_succ, List.getElem?_cons_zero]; exact rfl)
          case qq47 => exact fun _ _ _ h => h
          case qw47 => rfl
          case qy47 => (intro wx _; go_simp; try with_reducible rfl)
          try simp only [Act.put, List.setIfInBounds_toArray, List.set_cons_zero, List.set_cons_succ]
          refine late_pure (i := 14) (v := ?qv48) (oi := ?qo48) ?qh48 (by kernel_rfl) (by kernel_rfl) (by kernel_rfl) (by decide) ?qq48 (Or.inl ⟨?qw48, ?qy48⟩) (by assumption) ?qr48
          case qh48 => (simp only [List.getElem?_toArray, List.getElem?_cons_succ, List.getElem?_cons_zero]; exact rfl)
          case qq48 => exact fun _ _ _ h => h
          case qw48 => rfl
          case qy48 => (intro wx _; go_simp; try with_reducible rfl)
          try simp only [Act.put, List.setIfInBounds_toArray, List.set_cons_zero, List.set_cons_succ]
          refine late_pure (i := 15) (v := ?qv49) (oi := ?qo49) ?qh49 (by kernel_rfl) (by kernel_rfl) (by kernel_rfl) (by decide) ?qq49 (Or.inl ⟨?qw49, ?qy49⟩) (by assumption) ?qr49
          case qh49 => (simp only [List.getElem?_toArray, List.getElem?_cons_succ, List.getElem?_cons_zero]; exact rfl)
          case qq49 => exact fun _ _ _ h => h
          case qw49 => rfl
          case qy49 => (intro wx _; go_simp; try with_reducible rfl)
          try simp only [Act.put, List.setIfInBounds_toArray, List.set_cons_zero, List.set_cons_succ]
          refine late_pure (i := 16) (v := ?qv50) (oi := ?qo50) ?qh50 (by kernel_rfl) (by kernel_rfl) (by kernel_rfl) (by decide) ?qq50 (Or.inl ⟨?qw50, ?qy50⟩) (by assumption) ?qr50
          case qh50 => (simp only [List.getElem?_toArray, List.getElem?_cons_succ, List.getElem?_cons_zero]; exact rfl)
          case qq50 => exact fun _ _ _ h => h
          case qw50 => rfl
          case qy50 => (intro wx _; go_simp; try with_reducible rfl)
          try simp only [Act.put, List.setIfInBounds_toArray, List.set_cons_zero, List.set_cons_succ]
          refine late_done (by kernel_rfl) ?_ _
          clear hC hC0
          have hqc : q0 ≤ c1 := by omega
          have hqn2 : q0 ≤ n1 := by omega
          have hqnI : (q0 : Int) ≤ (n1 : Int) := by omega
          have hlen : ((ys.drop i).take q0).length = q0 := by have := HM.out; have := HIN.out; simp; omega
          have HL : Hid _ := hlen
          have hC1 : C2 ⟨c.WB, 1, none⟩ (.slice (some ⟨c.BB, 0, none⟩) bs.length c.P) wr.drew.drew := ⟨five_cell1 H.out.wr, blk_free H.out.wr⟩
          obtain ⟨w1, hrun, how, hgr⟩ := run_append_fits (P := Yba.prog) wr.drew.drew c.base 33 33 5 i5 1 Yba.underlying33 hi5 hz51 c.BB bs.length c.P (by8 bs) H.out.drew.drew.ob ⟨b, off + i, none⟩ q0 c1 (by8 ((ys.drop i).take q0)) (by simpa using hlen) (chunk_news H.out.drew.drew.bel (HA.out.2 (by omega)) HM.out (by have := HIN.out; omega) HC.out) (one8 _) (by have := HQ.out; omega)
          have HR : Hid _ := hrun
          clear hrun hlen
          go_wp2
          refine wp_region_late 14 (C2 ⟨c.WB, 1, none⟩ (.slice (some ⟨c.BB, 0, none⟩) bs.length c.P)) (by kernel_rfl) hC1 (fun hC => ?_)
          refine late_pure (i := 0) (v := ?qv51) (oi := ?qo51) ?qh51 (by kernel_rfl) (by kernel_rfl) (by kernel_rfl) (by decide) ?qq51 (Or.inl ⟨?qw51, ?qy51⟩) (by assumption) ?qr51
          case qh51 => (simp only [List.getElem?_toArray, List.getElem?_cons_succ, List.getElem?_cons_zero]; exact rfl)
          case qq51 => exact fun _ _ _ h => h
          case qw51 => rfl
          case qy51 => (intro wx _; go_simp; try with_reducible rfl)
          try simp only [Act.put, List.setIfInBounds_toArray, List.set_cons_zero, List.set_cons_succ]
          refine late_pure (i := 1) (v := ?qv52) (oi := ?qo52) ?qh52 (by kernel_rfl) (by kernel_rfl) (by kernel_rfl) (by decide) ?qq52 (Or.inl ⟨?qw52, ?qy52⟩) (by assumption) ?qr52
          case qh52 => (simp only [List.getElem?_toArray, List.getElem?_cons_succ, List.getElem?_cons_zero]; exact rfl)
          case qq52 => exact fun _ _ _ h => h
          case qw52 => rfl
          case qy52 => (intro wx _; go_simp; try with_reducible rfl)
          try simp only [Act.put, List.setIfInBounds_toArray, List.set_cons_zero, List.set_cons_succ]
          refine late_pure (i := 2) (v := ?qv53) (oi := ?qo53) ?qh53 (by kernel_rfl) (by kernel_rfl) (by kernel_rfl) (by decide) ?qq53 (Or.inl ⟨?qw53, ?qy53⟩) (by assumption) ?qr53
          case qh53 => (simp only [List.getElem?_toArray, List.getElem?_cons_succ, List.getElem?_cons_zero]; exact rfl)
          case qq53 => exact fun _ _ _ h => h
          case qw53 => rfl
          case qy53 => (intro wx _; go_simp; try with_reducible rfl)
          try simp only [Act.put, List.setIfInBounds_toArray, List.set_cons_zero, List.set_cons_succ]
          refine late_pure (i := 3) (v := ?qv54) (oi := ?qo54) ?qh54 (by kernel_rfl) (by kernel_rfl) (by kernel_rfl) (by decide) ?qq54 (Or.inl ⟨?qw54, ?qy54⟩) (by assumption) ?qr54
          case qh54 => (simp only [List.getElem?_toArray, List.getElem?_cons_succ, List.getElem?_cons_zero]; exact rfl)
          case qq54 => exact fun _ _ _ h => h
          case qw54 => rfl
          case qy54 => (intro wx _; go_simp; try with_reducible rfl)
          try simp only [Act.put, List.setIfInBounds_toArray, List.set_cons_zero, List.set_cons_succ]
          refine late_load (i := 4) (v := ?qv55) (oi := ?qo55) ?qh55 (by kernel_rfl) (by kernel_rfl) (by kernel_rfl) (by kernel_rfl) (by kernel_rfl) (by decide) ?qq55 (Or.inl ⟨?qw55, ?qy55⟩) (by assumption) ?qr55
          case qh55 => (simp only [List.getElem?_toArray, List.getElem?_cons_succ, List.getElem?_cons_zero]; exact rfl)
          case qq55 => exact fun _ _ _ h => h
          case qw55 => rfl
          case qy55 => (intro wx hSw; (try dsimp only at hSw); obtain ⟨s1, s2⟩ := hSw; go_simp; try with_reducible rfl)
          try simp only [Act.put, List.setIfInBounds_toArray, List.set_cons_zero, List.set_cons_succ]
          refine late_pure (i := 5) (v := ?qv56) (oi := ?qo56) ?qh56 (by kernel_rfl) (by kernel_rfl) (by kernel_rfl) (by decide) ?qq56 (Or.inl ⟨?qw56, ?qy56⟩) (by assumption) ?qr56
          case qh56 => (simp only [List.getElem?_toArray, List.getElem?_cons_succ, List.getElem?_cons_zero]; exact rfl)
          case qq56 => exact fun _ _ _ h => h
          case qw56 => rfl
          case qy56 => (intro wx _; go_simp; try with_reducible rfl)
          try simp only [Act.put, List.setIfInBounds_toArray, List.set_cons_zero, List.set_cons_succ]
          refine late_pure (i := 6) (v := ?qv57) (oi := ?qo57) ?qh57 (by kernel_rfl) (by kernel_rfl) (by kernel_rfl) (by decide) ?qq57 (Or.inl ⟨?qw57, ?qy57⟩) (by assumption) ?qr57
          case qh57 => (simp only [List.getElem?_toArray, List.getElem?_cons_succ, List.getElem?_cons_zero]; exact rfl)
          case qq57 => exact fun _ _ _ h => h
          case qw57 => rfl
          case qy57 => (intro wx _; go_simp; try with_reducible rfl)
          try simp only [Act.put, List.setIfInBounds_toArray, List.set_cons_zero, List.set_cons_succ]
          refine late_pure (i := 7) (v := ?qv58) (oi := ?qo58) ?qh58 (by kernel_rfl) (by kernel_rfl) (by kernel_rfl) (by decide) ?qq58 (Or.inl ⟨?qw58, ?qy58⟩) (by assumption) ?qr58
          case qh58 => (simp only [List.getElem?_toArray, List.getElem?_cons_succ, List.getElem?_cons_zero]; exact rfl)
          case qq58 => exact fun _ _ _ h => h
          case qw58 => rfl
          case qy58 => (intro wx _; go_simp; try with_reducible rfl)
          try simp only [Act.put, List.setIfInBounds_toArray, List.set_cons_zero, List.set_cons_succ]
          refine late_pure (i := 9) (v := ?qv59) (oi := ?qo59) ?qh59 (by kernel_rfl) (by kernel_rfl) (by kernel_rfl) (by decide) ?qq59 (Or.inl ⟨?qw59, ?qy59⟩) (by assumption) ?qr59
          case qh59 => (simp only [List.getElem?_toArray, List.getElem?_cons_succ, List.getElem?_cons_zero]; exact rfl)
          case qq59 => exact fun _ _ _ h => h
          case qw59 => rfl
          case qy59 => (intro wx _; go_simp; try with_reducible rfl)
          try simp only [Act.put, List.setIfInBounds_toArray, List.set_cons_zero, List.set_cons_succ]
          refine late_pure (i := 10) (v := ?qv60) (oi := ?qo60) ?qh60 (by kernel_rfl) (by kernel_rfl) (by kernel_rfl) (by decide) ?qq60 (Or.inl ⟨?qw60, ?qy60⟩) (by assumption) ?qr60
          case qh60 => (simp only [List.getElem?_toArray, List.getElem?_cons_succ, List.getElem?_cons_zero]; exact rfl)
          case qq60 => exact fun _ _ _ h => h
          case qw60 => rfl
          case qy60 => (intro wx _; go_simp; try with_reducible rfl)
          try simp only [Act.put, List.setIfInBounds_toArray, List.set_cons_zero, List.set_cons_succ]
          refine late_pure (i := 11) (v := ?qv61) (oi := ?qo61) ?qh61 (by kernel_rfl) (by kernel_rfl) (by kernel_rfl) (by decide) ?qq61 (Or.inl ⟨?qw61, ?qy61⟩) (by assumption) ?qr61
          case qh61 => (simp only [List.getElem?_toArray, List.getElem?_cons_succ, List.getElem?_cons_zero]; exact rfl)
          case qq61 => exact fun _ _ _ h => h
          case qw61 => rfl
          case qy61 => (intro wx _; go_simp; try with_reducible rfl)
          try simp only [Act.put, List.setIfInBounds_toArray, List.set_cons_zero, List.set_cons_succ]
          refine late_one (i := 8) (o := ?qo62) (by kernel_rfl) ?qh62 (fun K hK => ?qr62)
          case qh62 => (simp only [List.getElem?_toArray, List.getElem?_cons_succ, List.getElem?_cons_zero]; exact rfl)
          refine step_append_run (by rfl) (.tmp 40) (.tmp 43) 33 (by rfl) (.slice (some ⟨c.BB, 0, none⟩) bs.length c.P) (.slice (some ⟨b, off + i, none⟩) q0 c1) (by rfl) (by rfl) _ w1 HR.out ?_
          have hwr1 := kp_own (T := 69) H.out.drew.drew.ob hgr (by decide) _ _ H.out.drew.drew.wr
          have hC2 : C2 ⟨c.WB, 1, none⟩ (.slice (some ⟨c.BB, 0, none⟩) bs.length c.P) w1 := ⟨five_cell1 hwr1, blk_free hwr1⟩
          refine hK.out _ _ hC2 ?_
          clear hK K
          try simp only [Act.put, List.setIfInBounds_toArray, List.set_cons_zero, List.set_cons_succ]
          have hC6 := hC2
          obtain ⟨s1, s2⟩ := hC6
          have h3 := H.out.drew.drew.setB (n := bs.length + q0) (bs' := bs ++ (ys.drop i).take q0) hgr (by have := HL.out; simp at this; simp; omega) (by simpa using how)
          have H3 : Hid _ := h3
          clear h3 hwr1 how hgr hC hC1 HR
          refine late_pure (i := 12) (v := ?qv63) (oi := ?qo63) ?qh63 (by kernel_rfl) (by kernel_rfl) (by kernel_rfl) (by decide) ?qq63 (Or.inl ⟨?qw63, ?qy63⟩) (by assumption) ?qr63
          case qh63 => (simp only [List.getElem?_toArray, List.getElem?_cons_succ, List.getElem?_cons_zero]; exact rfl)
          case qq63 => exact fun _ _ _ h => h
          case qw63 => rfl
          case qy63 => (intro wx _; go_simp; try with_reducible rfl)
          try simp only [Act.put, List.setIfInBounds_toArray, List.set_cons_zero, List.set_cons_succ]
          refine late_pure (i := 13) (v := ?qv64) (oi := ?qo64) ?qh64 (by kernel_rfl) (by kernel_rfl) (by kernel_rfl) (by decide) ?qq64 (Or.inl ⟨?qw64, ?qy64⟩) (by assumption) ?qr64
          case qh64 => (simp only [List.getElem?_toArray, List.getElem?_cons_succ, List.getElem?_cons_zero]; exact rfl)
          case qq64 => exact fun _ _ _ h => h
          case qw64 => rfl
          case qy64 => (intro wx _; go_simp; try with_reducible rfl)
          try simp only [Act.put, List.setIfInBounds_toArray, List.set_cons_zero, List.set_cons_succ]
          refine late_rest 14 (by kernel_rfl) (by decide) (o := ?qo65) ?qh65 (fun K hK => ?qr65)
          case qh65 => (simp only [List.getElem?_toArray, List.getElem?_cons_succ, List.getElem?_cons_zero]; exact rfl)
          go_simp
          refine hK.out _ _ ?_
          clear hK K
          try simp only [Act.put, List.setIfInBounds_toArray, List.set_cons_zero, List.set_cons_succ]
          refine late_rest 15 (by kernel_rfl) (by decide) (o := ?qo66) ?qh66 (fun K hK => ?qr66)
          case qh66 => (simp only [List.getElem?_toArray, List.getElem?_cons_succ, List.getElem?_cons_zero]; exact rfl)
          go_simp
          refine hK.out _ _ ?_
          clear hK K
          try simp only [Act.put, List.setIfInBounds_toArray, List.set_cons_zero, List.set_cons_succ]
          refine late_done (by kernel_rfl) ?_ _
          clear s1 s2 hC2
          generalize hAN : (if c1 = q0 then (some ⟨b, off + i, none⟩ : Option Addr) else some ⟨b, off + i + q0, none⟩) = aN
          have HAN : Hid _ := hAN
          clear hAN
          have h3 := H3.out
          generalize w1.setCell ⟨c.WB, 1, none⟩ (.slice (some ⟨c.BB, 0, none⟩) (bs.length + q0) c.P) = w2 at h3 ⊢
          have z1 : w2.cell? ⟨c.WB, 1, none⟩ = some (.slice (some ⟨c.BB, 0, none⟩) (bs.length + q0) c.P) := by have := five_cell1 h3.wr; rwa [List.length_append, HL.out] at this
          have z0 := five_cell0 h3.wr
          have z5 := FC_cell5 h3.find
          have H4 : Hid _ := h3
          clear h3 H3 H f4
          have hbe : ((bs.length : Int) + (q0 : Int) == (c.P : Int)) = true := by have := HQ.out; simp; omega
          go_wp2
          go_quiet (fail)
          go_wp2_with (go_at_call 13; go_must (refine (wpage c ok e0 k vo vd vp dv pgs (bs ++ (ys.drop i).take q0) vD xD _ (H4.out.drewN _) HK.out.1 (by rw [List.length_append, HL.out]; exact HQ.out) hkP).mono ?_; rintro e w3 ⟨rfl, hfl, hgd⟩; have HFL : Hid _ := And.intro hfl hgd; clear hfl hgd))
          go_roundw
          case rel =>
            refine ⟨i + q0, n1 - q0, c1 - q0, _, by have := HIN.out; omega, rfl, by omega, by omega, fun h => by rw [← HAN.out, if_neg (by omega), Nat.add_assoc], ?_⟩
            have hbl2 : (bs ++ (ys.drop i).take q0).length = c.P := by rw [List.length_append, HL.out]; exact HQ.out
            by_cases hff : k + 1 = c.F
            · obtain ⟨vo', vd', dv', h5⟩ := HFL.out.1 hff
              exact .inr ⟨vo', vd', vp, dv', k, pgs, bs ++ (ys.drop i).take q0, [], HK.out.1, hpl, hbl2, by rw [← take_more, HK.out.2]; simp, hff, h5⟩
            · obtain ⟨vo', vd', vp', dv', h5⟩ := HFL.out.2 hff
              refine .inl ⟨vo', vd', vp', dv', k + 1, pgs ++ [bs ++ (ys.drop i).take q0], [], by have := HK.out.1; simp; omega, ?_, by have := ok.P1; simp; omega, by rw [← take_more, HK.out.2]; simp, by omega, h5⟩
              intro p hp
              rcases List.mem_append.1 hp with h' | h'
              · exact hpl p h'
              · obtain rfl := List.mem_singleton.1 h'
                exact hbl2
          case measure => simp [slen]; omega
    · have HX : Hid (Failed c e0 (D ++ ys) vD xD wr) := by
        have := hFd.more (ys := ys.drop i)
        rwa [List.append_assoc, List.take_append_drop] at this
      obtain ⟨vo, vd, vp, dv, k, pgs, bs, rest, hk, hpl, hbl, hDe, hF, h⟩ := hFd
      have f4 := five_cell4 h.wr
      clear hk hpl hbl hDe hF h
      by_cases hz : n1 = 0
      · subst hz
        go_wp2
        go_quiet (fail)
        go_wp2
        go_ret2
        exact .inr ⟨HX.out.drewN _, rfl⟩
      · have hpos : (0 : Int) < (n1 : Int) := by omega
        go_wp2
        go_quiet (fail)
        go_wp2
        go_ret2
        exact .inr ⟨HX.out.drewN _, rfl⟩

end Go.Proofs.Ybulkclou.Pg
