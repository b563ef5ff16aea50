/- The law's own walk, first part. -/
import Derived.Test.YbulkclouPg7
import Derived.Lib.AppendZeros
namespace Go.Proofs.Ybulkclou.Pg
open Go.RowKit
set_option linter.unusedVariables false
set_option linter.unusedSimpArgs false
set_option maxRecDepth 100000

theorem clone_any (fa0 : Option Addr) (L fc : Nat) (frs : List Int) (w : World) (hfl : frs.length = L) (hL : L ≤ 256)
    (h : (fa0 = none ∧ L = 0 ∧ fc = 0) ∨ ∃ x, fa0 = some x ∧ L ≤ fc ∧ fc ≤ 9223372036854775807 ∧ (0 < L → x.block < w.heap.size) ∧ ∀ j u, (i6 frs)[j]? = some u → w.cell? (x.add j) = some u) :
    Calls Yba.prog 8 #[.slice fa0 L fc] w fun e w' => ∃ fa fcap, e = .returned (.slice fa L fcap) ∧ w'.ownsRow w.heap.size 2 1 (.slice fa L fcap) L (i6 frs) ∧ Below w.heap.size w w' := by
  rcases h with ⟨rfl, rfl, rfl⟩ | ⟨x, rfl, _, _, hb, hc⟩
  · refine (clone_nil w).mono ?_
    rintro e w' ⟨rfl, rfl⟩
    obtain rfl := List.eq_nil_of_length_eq_zero hfl
    exact ⟨none, 0, rfl, World.ownsRow_nil _ _ _ _, Below.refl _ _⟩
  · exact clone_some x L fc frs w hfl hL hb hc

theorem zero61 (w : World) : (zeroValue 61).run Yba.prog w = .ok (.agg #[.int .i64 0, .int .i64 0, .nilFunc, .int .i64 0, .int .i64 0, .int .i64 0, .int .i64 0, .int .i64 0, nilS, nilS, .nilIface, .int .i64 0, nilS, nilS, .int .i64 0, .nilIface]) w := by kernel_rfl

theorem quiet_any {P : Program} {f : FuncId} {args : Array Value} {w0 : World} {m x : Nat} {v : Value} (h : Calls P f args (w0.drewN (m + x)) fun e w' => e = .returned v ∧ ∃ k, w' = (w0.drewN (m + x)).drewN k) :
    Calls P f args (w0.drewN (m + x)) fun e w' => e = .returned v ∧ ∃ n, w' = w0.drewN (m + n) := by
  refine h.mono ?_
  rintro e w' ⟨rfl, k, rfl⟩
  exact ⟨rfl, x + k, by rw [World.drewN_drewN, Nat.add_assoc]⟩
theorem quiet_same {P : Program} {f : FuncId} {args : Array Value} {w0 : World} {m x : Nat} {v : Value} (h : Calls P f args (w0.drewN (m + x)) fun e w' => e = .returned v ∧ w' = w0.drewN (m + x)) :
    Calls P f args (w0.drewN (m + x)) fun e w' => e = .returned v ∧ ∃ n, w' = w0.drewN (m + n) := by
  refine h.mono ?_
  rintro e w' ⟨rfl, rfl⟩
  exact ⟨rfl, x, rfl⟩

theorem write_any (c : Cx) (ok : c.Ok) (e0 : Int) (D ys : List Int) (k : Nat) (a : Option Addr) (vD : Value) (xD : List Int) (w : World) (hst : Okay c e0 D vD xD w ∨ Failed c e0 D vD xD w) (hbase : c.base = c.W.heap.size)
    (hk1 : ys.length ≤ k) (hk2 : k ≤ 9223372036854775807)
    (hcs : 0 < ys.length → ∃ b off, a = some ⟨b, off, none⟩ ∧ b < c.W.heap.size ∧ ∀ t, t < ys.length → c.W.cell? ⟨b, off + t, none⟩ = some (.int .u8 (ys.getD t 0))) (hD : D.length + ys.length ≤ 4096) :
    Calls Yba.prog 11 #[.pointer (some ⟨c.WB, 0, none⟩), .slice a ys.length k] w fun e w' =>
      (Okay c e0 (D ++ ys) vD xD w' ∧ e = .returned (.tuple #[.int .i64 ys.length, .nilIface])) ∨ (Failed c e0 (D ++ ys) vD xD w' ∧ e = .returned (.tuple #[.int .i64 0, .iface 75 (.pointer (some ⟨c.EB, 0, none⟩))])) := by
  by_cases h0 : 0 < ys.length
  · obtain ⟨b, off, rfl, hb, hc⟩ := hcs h0
    exact write c ok e0 D ys b off ys.length k _ vD xD w hst rfl (fun _ => rfl) (fun _ => by rw [hbase]; exact hb) hk1 hk2 hc hD
  · exact write c ok e0 D ys 0 0 ys.length k a vD xD w hst rfl (fun h => absurd h h0) (fun h => absurd h h0) hk1 hk2 (fun j hj => absurd (Nat.lt_of_le_of_lt (Nat.zero_le _) hj) h0) hD

theorem wp_long (pg en fi : Int) (ca fa : Option Addr) (n cc L fc : Nat) (w : World) (h : 256 < n ∨ 256 < L) :
    Calls Yba.prog 4 #[.int .u8 pg, .slice ca n cc, .slice fa L fc, .int .i64 en, .int .u8 fi] w fun e w' => e = .returned (.bool true) ∧ Below w.heap.size w w' := by
  by_cases h1 : 256 < n
  · have h2 : (256 : Int) < (n : Int) := by omega
    go_enter Yba.func4, Yba.ntmps4
    go_wp2
    go_ret
    exact ⟨rfl, Below.refl _ _⟩
  · have h2 : ¬ (256 : Int) < (n : Int) := by omega
    have h3 : (256 : Int) < (L : Int) := by omega
    go_enter Yba.func4, Yba.ntmps4
    go_wp2
    go_ret
    exact ⟨rfl, Below.refl _ _⟩

set_option maxHeartbeats 4000000 in
theorem wp_main (pg en fi : Int) (ca fa0 : Option Addr) (n cc L fc : Nat) (cb co : Nat) (V : Nat → Value) (X : Nat → List Int) (frs : List Int) (P F : Nat) (w : World) (hn : n ≤ 256) (hL : L ≤ 256)
    (hca : 0 < n → ca = some ⟨cb, co, none⟩) (hcb : 0 < n → cb < w.heap.size) (hV : ∀ j, j < n → w.cell? ⟨cb, co + j, none⟩ = some (V j) ∧ IsBytes w (V j) (X j))
    (hX : ∀ j, j < n → (X j).length ≤ 140737488351232) (hfl : frs.length = L) (hfa : (fa0 = none ∧ L = 0 ∧ fc = 0) ∨ ∃ x, fa0 = some x ∧ L ≤ fc ∧ fc ≤ 9223372036854775807 ∧ (0 < L → x.block < w.heap.size) ∧ ∀ j u, (i6 frs)[j]? = some u → w.cell? (x.add j) = some u)
    (hpg : 0 ≤ pg ∧ pg ≤ 255) (hfi : 0 ≤ fi ∧ fi ≤ 255) (hen : -9223372036854775808 ≤ en ∧ en ≤ 9223372036854775807) (hP : 1 + pg % 16 = (P : Int)) (hF : fi % 8 = (F : Int)) :
    Calls Yba.prog 4 #[.int .u8 pg, .slice ca n cc, .slice fa0 L fc, .int .i64 en, .int .u8 fi] w fun e w' => e = .returned (.bool true) ∧ Below w.heap.size w w' := by
  have h1 : ¬ (256 : Int) < (n : Int) := by omega
  have h2 : ¬ (256 : Int) < (L : Int) := by omega
  have HC : Hid ((0 < n → ca = some ⟨cb, co, none⟩) ∧ (0 < n → cb < w.heap.size)) := ⟨hca, hcb⟩
  have HV : Hid (∀ j, j < n → w.cell? ⟨cb, co + j, none⟩ = some (V j) ∧ IsBytes w (V j) (X j)) := hV
  have HF : Hid _ := hfa
  have HPF : Hid (frs.length = L) := hfl
  have p1 : 1 ≤ P := by omega
  have p2 : P ≤ 16 := by omega
  have f7 : F ≤ 7 := by omega
  clear hca hcb hV hfa hfl
  go_enter Yba.func4, Yba.ntmps4
  go_wp2
  go_loopw [11, 41] (fun tv iv wr => ∃ i : Nat, i ≤ n ∧ iv = .int .i64 i ∧ tv = .int .i64 ((cat X i).length : Nat) ∧ (cat X i).length ≤ 4096 ∧ wr = w) (fun _ iv _ => n - (intOf iv).toNat)
  case atStart => exact ⟨0, Nat.zero_le _, rfl, rfl, by simp [cat_zero], rfl⟩
  case round =>
    obtain ⟨i, hi, rfl, rfl, hle, rfl⟩ := hrel
    by_cases hlt : i < n
    · obtain rfl := HC.out.1 (by omega)
      obtain ⟨hv, a, k, hve, hk1, hk2, _⟩ := HV.out i hlt
      rw [hve] at hv
      have hln : (i : Int) < (n : Int) := by omega
      have hx := hX i hlt
      have hsum : (cat X (i + 1)).length = (cat X i).length + (X i).length := by rw [cat_succ, List.length_append]
      clear hve
      by_cases hbig : 4096 < (cat X i).length + (X i).length
      · have hbI : (4096 : Int) < ((cat X i).length : Int) + ((X i).length : Int) := by omega
        go_wp2
        go_ret
        exact ⟨rfl, Below.refl _ _⟩
      · have hbI : ¬ (4096 : Int) < ((cat X i).length : Int) + ((X i).length : Int) := by omega
        go_wp2
        go_roundw
        case rel => exact ⟨i + 1, by omega, by go_num, by rw [hsum]; go_num, by omega, trivial⟩
        case measure => simp [intOf]; omega
    · obtain rfl : n = i := by omega
      obtain ⟨wo, rfl⟩ : ∃ wo : World, wo = wr := ⟨_, rfl⟩
      have hz := zero61
      go_wp2_with (first | (go_at_call 8; go_must (refine (clone_any fa0 L fc frs wo HPF.out hL HF.out).mono ?_; rintro e w1 ⟨fa, fcap, rfl, ho, hb1⟩; have HO : Hid _ := And.intro ho hb1; clear ho hb1)) | (go_at_call 9; go_must (refine (errnew _ _).mono ?_; rintro e w2 ⟨rfl, hw2⟩; obtain rfl := hw2.symm)))
      refine (newpw (w1.heap.size + 1 + 1) P _ p2 (by rw [World.cell?_alloc_at _ _ _ _ (by simp)]; rfl)).mono ?_
      rintro e w2 ⟨rfl, hw2⟩
      have hst : w2 = started w1 { data := #[122, 122] } P F L fcap fa en := by rw [hw2]; simp [started, FC]
      have hO := start_ok wo w1 { data := #[122, 122] } P F L fcap fa frs en HO.out.2 p1 p2 hen HO.out.1
      rw [← hst] at hO
      clear hst hw2
      obtain ⟨c, HI, eSB, eFB, eWB, eP, eF, eL⟩ : ∃ c : Cx, Hid (Okay c en [] nilS [] w2 ∧ c.W = wo ∧ c.base = wo.heap.size ∧ c.frs = frs) ∧ w1.heap.size + 1 = c.SB ∧ c.SB + 1 = c.FB ∧ c.FB + 1 + 1 = c.WB ∧ P = c.P ∧ F = c.F ∧ L = c.L :=
        ⟨_, ⟨hO, rfl, rfl, rfl⟩, rfl, rfl, rfl, rfl, rfl, rfl⟩
      clear hO HO
      subst eP eF eL
      go_wp2
      clear eSB eFB eWB hz
      have hbase : c.base = c.W.heap.size := by rw [HI.out.2.1, HI.out.2.2.1]
      have ok : c.Ok := ⟨p1, p2, f7, hL, by rw [HI.out.2.2.2]; exact HPF.out⟩
      obtain ⟨fp, hfp⟩ : ∃ fp : Nat, c.F * c.P = fp := ⟨_, rfl⟩
      have hfp2 : fp ≤ 112 := by rw [← hfp]; exact Nat.mul_le_mul f7 p2
      have hfpI : (c.F : Int) * (c.P : Int) = (fp : Int) := by rw [← hfp, Int.natCast_mul]
      have hfpw : IntKind.i64.wrap ((c.F : Int) * (c.P : Int)) = (fp : Int) := by rw [hfpI, IntKind.wrap_i64]; omega
      have HFP : Hid (c.F * c.P = fp) := hfp
      clear hfp hfpI
      have hne := neqE c.EB
      go_loopw [19, 20, 21, 75] (fun dv cv fv iv wq => ∃ i : Nat, i ≤ n ∧ iv = .int .i64 i ∧ cv = .int .i64 ((cat X i).length : Nat) ∧ ((fv = .bool false ∧ Okay c en (cat X i) dv (cat X i) wq) ∨ (fv = .bool true ∧ Failed c en (cat X i) dv (cat X i) wq))) (fun _ _ _ iv _ => n - (intOf iv).toNat)
      case atStart => exact ⟨0, Nat.zero_le _, rfl, rfl, .inl ⟨rfl, HI.out.1⟩⟩
      case round =>
        obtain ⟨i, hi, rfl, rfl, hS⟩ := hrel
        by_cases hlt : i < n
        · obtain rfl := HC.out.1 (by omega)
          obtain ⟨hv0, hby⟩ := HV.out i hlt
          have hbel : Below c.base c.W wr := by rcases hS with ⟨_, h⟩ | ⟨_, h⟩ <;> exact h.bel
          have hv : wr.cell? ⟨cb, co + i, none⟩ = some (V i) := (hbel.cell (by rw [HI.out.2.2.1]; exact HC.out.2 (by omega))).trans (by rw [HI.out.2.1]; exact hv0)
          clear hbel hv0
          have hby2 : IsBytes c.W (V i) (X i) := by rw [HI.out.2.1]; exact hby
          have HB : Hid _ := hby2
          obtain ⟨a, k, hve, hk1, hk2, hcs⟩ := hby2
          have HVE : Hid _ := hve
          rw [hve] at hv
          have HCS : Hid _ := hcs
          have hln : (i : Int) < (n : Int) := by omega
          have hsum : (cat X (i + 1)).length = (cat X i).length + (X i).length := by rw [cat_succ, List.length_append]
          have hsm := cat_le X (i := i + 1) (j := n) hlt
          have HSUM : Hid _ := hsum
          have hs1 : (cat X i).length + (X i).length ≤ 4096 := by omega
          clear hve hcs hsum hsm hby
          rcases hS with ⟨rfl, hO⟩ | ⟨rfl, hFd⟩
          · obtain ⟨vD', wa, hrun, hOa⟩ := hO.appD hbase HB.out (by omega)
            rw [HVE.out] at hrun
            have HR : Hid _ := hrun
            have HOA : Hid _ := hOa
            clear hrun hOa hO
            go_wp2_with (at_builtin; refine Lib.wpList_append_run _ rfl _ _ _ _ rfl _ _ rfl rfl _ _ HR.out ?_)
            refine (write_any c ok en (cat X i) (X i) k a vD' (cat X i ++ X i) wa (.inl HOA.out) hbase hk1 hk2 HCS.out (by omega)).mono ?_
            rintro e w3 (⟨hO3, rfl⟩ | ⟨hF3, rfl⟩)
            · obtain ⟨z2, z3⟩ := hO3.stub
              have hlt3 := hO3.lt
              have H3 : Hid _ := hO3
              clear hO3
              by_cases hF0 : c.F = 0
              · have g1 : ¬ (0 : Int) < (c.F : Int) := by omega
                clear hlt3 hF0
                go_wp2
                go_roundw
                case rel => exact ⟨i + 1, by omega, by go_num, by rw [HSUM.out]; go_num, .inl ⟨rfl, by rw [cat_succ]; exact H3.out⟩⟩
                case measure => simp [intOf]; omega
              · have g1 : (0 : Int) < (c.F : Int) := by omega
                have g2 : ¬ ((fp : Int) ≤ ((cat X i).length : Int) + ((X i).length : Int)) := by
                  rw [List.length_append] at hlt3
                  have := HFP.out
                  omega
                clear hlt3 hF0
                go_wp2
                go_roundw
                case rel => exact ⟨i + 1, by omega, by go_num, by rw [HSUM.out]; go_num, .inl ⟨rfl, by rw [cat_succ]; exact H3.out⟩⟩
                case measure => simp [intOf]; omega
            · obtain ⟨z2, z3⟩ := hF3.stub
              have hlt3 := hF3.le
              have H3 : Hid _ := hF3
              clear hF3
              have g1 : (0 : Int) < (c.F : Int) := by omega
              have g2 : ((fp : Int) ≤ ((cat X i).length : Int) + ((X i).length : Int)) := by
                rw [List.length_append] at hlt3
                have := HFP.out
                omega
              clear hlt3
              go_wp2
              go_roundw
              case rel => exact ⟨i + 1, by omega, by go_num, by rw [HSUM.out]; go_num, .inr ⟨rfl, by rw [cat_succ]; exact H3.out⟩⟩
              case measure => simp [intOf]; omega
          · obtain ⟨vD', wa, hrun, hOa⟩ := hFd.appD hbase HB.out (by omega)
            rw [HVE.out] at hrun
            have HR : Hid _ := hrun
            have HOA : Hid _ := hOa
            have HLE : Hid _ := hFd.le
            clear hrun hOa hFd
            go_wp2_with (at_builtin; refine Lib.wpList_append_run _ rfl _ _ _ _ rfl _ _ rfl rfl _ _ HR.out ?_)
            refine (write_any c ok en (cat X i) (X i) k a vD' (cat X i ++ X i) wa (.inr HOA.out) hbase hk1 hk2 HCS.out (by omega)).mono ?_
            rintro e w3 (⟨hO3, rfl⟩ | ⟨hF3, rfl⟩)
            · exfalso
              have h1 := hO3.lt
              have h2 := HLE.out
              rw [List.length_append] at h1
              omega
            · obtain ⟨z2, z3⟩ := hF3.stub
              have H3 : Hid _ := hF3
              clear hF3
              go_wp2
              go_roundw
              case rel => exact ⟨i + 1, by omega, by go_num, by rw [HSUM.out]; go_num, .inr ⟨rfl, by rw [cat_succ]; exact H3.out⟩⟩
              case measure => simp [intOf]; omega
        · obtain rfl : n = i := by omega
          have hpne : ¬ (c.P : Int) = 0 := by omega
          rcases hS with ⟨rfl, hO⟩ | ⟨rfl, hFd⟩
          · obtain ⟨vo, vd, vp, dv, k, pgs, bs, hk, hpl, hbl, hDe, hFk, h⟩ := hO
            have hlen : (cat X n).length = k * c.P + bs.length := by rw [hDe, List.length_append, flat_len pgs hpl, ← hk]
            have hdiv : ((cat X n).length : Int).tdiv (c.P : Int) = (k : Int) := tdiv_nat _ _ _ _ hlen hbl
            have hkD : k * c.P ≤ (cat X n).length := by omega
            obtain ⟨da, dc, dg, s1, d1, d2, d3, d4⟩ := h.pagesT (rest := bs) hk.symm hpl hDe
            obtain ⟨oa, oc, og, s0, o1, o2, o3, o4⟩ := h.offsT
            obtain ⟨pa, pc, pgk, t2, t3, t4, t5, t6⟩ := h.psT
            obtain ⟨fg, fr1, fr2⟩ := h.freeT ok.fl
            obtain ⟨xa, xc, hxv, x1, x2, x3, x4⟩ := h.dataT
            subst hxv
            obtain ⟨fb, fo, q1, q2, q3, q4⟩ := freeArg wo fa0 c.L fc frs HPF.out HF.out
            have q5 : ∀ j, j < c.L → wr.cell? ⟨fb, fo + j, none⟩ = some (.int .i64 (c.frs.getD j 0)) := fun j hj => (h.bel.cell (by rw [HI.out.2.2.1]; exact (q3 (by omega)).2)).trans (by rw [HI.out.2.1, HI.out.2.2.2]; exact q4 j hj)
            have s2 := four_cell2 h.stub
            have s3 := four_cell3 h.stub
            have c1 := five_cell1 h.wr
            have c3 := five_cell3 h.wr
            have c4 := five_cell4 h.wr
            have e11 := FC_cell11 h.find
            have e12 := FC_cell12 h.find
            have HBUF : Hid _ := h.bufT
            have HBEL : Hid _ := h.bel
            have hkk : k ≤ 4096 := Nat.le_trans (Nat.le_mul_of_pos_right k (by omega)) (Nat.le_trans hkD hle)
            obtain ⟨gp, hgp⟩ : ∃ gp : Nat, k * c.P = gp := ⟨_, rfl⟩
            rw [hgp] at c3
            have gp5 : gp ≤ 4096 := by omega
            have gpw : IntKind.i64.wrap ((k : Int) * (c.P : Int)) = (gp : Int) := by rw [← Int.natCast_mul, hgp, IntKind.wrap_i64]; omega
            obtain ⟨rem, hrem⟩ : ∃ rem : Nat, c.L - k = rem := ⟨_, rfl⟩
            rw [hrem] at e12
            obtain ⟨pop, hpop⟩ : ∃ pop : Nat, min k c.L = pop := ⟨_, rfl⟩
            have popI : (if c.L < k then (c.L : Int) else (k : Int)) = (pop : Int) := by split <;> omega
            have remI : (c.L : Int) - (pop : Int) = (rem : Int) := by omega
            obtain ⟨dd, hdd⟩ : ∃ dd : Nat, k - c.L = dd := ⟨_, rfl⟩
            have ddI : (k : Int) - (pop : Int) = (dd : Int) := by omega
            obtain ⟨dp, hdp⟩ : ∃ dp : Nat, dd * c.P = dp := ⟨_, rfl⟩
            have dp5 : dp ≤ 4096 := by rw [← hdp]; exact Nat.le_trans (Nat.mul_le_mul_right _ (by omega : dd ≤ k)) (Nat.le_trans hkD hle)
            have dpw : IntKind.i64.wrap ((dd : Int) * (c.P : Int)) = (dp : Int) := by rw [← Int.natCast_mul, hdp, IntKind.wrap_i64]; omega
            have e11' : wr.cell? ⟨c.FB, 11, none⟩ = some (.int .i64 (IntKind.i64.wrap (en + (dp : Int)))) := by rw [e11]; unfold enAt; rw [hdd, hdp]
            have remW : IntKind.i64.wrap (rem : Int) = (rem : Int) := by rw [IntKind.wrap_i64]; omega
            have popb : pop ≤ 256 := by omega
            have remb : rem ≤ 256 := by omega
            have ddb : dd ≤ 4096 := by omega
            have hslO := slice_hi oa k oc k (by omega) o2
            have hslF := slice_hi fa0 c.L fc rem (by omega) q2
            obtain ⟨aX, haX, rdX⟩ := x4 gp (by omega)
            have hslD := slice_lo xa (cat X n).length xc gp bs.length (by omega) (by omega)
            rw [haX] at hslD
            have HRX : Hid (∀ w' : World, w'.heap = wr.heap → Reads w' (.slice aX bs.length (xc - gp)) (strOfNums bs)) := fun w' hw' => by
              have e1 := rdX w' hw'
              have e2 : (cat X n).length - gp = bs.length := by omega
              have e3 : (cat X n).drop gp = bs := by rw [hDe, List.drop_append_of_le_length (by rw [flat_len pgs hpl, ← hk]; omega), List.drop_of_length_le (by rw [flat_len pgs hpl, ← hk]; omega), List.nil_append]
              rwa [e2, e3] at e1
            have HO : Hid ((0 < k → oa = some ⟨og, 0, none⟩) ∧ ∀ j, j < k → wr.cell? ⟨og, j, none⟩ = some (.int .i64 (offAt c en j))) := ⟨o3, o4⟩
            have HPS : Hid ((0 < k → pa = some ⟨pgk, 0, none⟩) ∧ ∀ j, j < k → wr.cell? ⟨pgk, j, none⟩ = some (.int .i64 (offAt c en j))) := ⟨t5, t6⟩
            have HFR : Hid ((0 < c.L → c.fa = some ⟨fg, 0, none⟩) ∧ ∀ j, j < c.L → wr.cell? ⟨fg, j, none⟩ = some (.int .i64 (c.frs.getD j 0))) := ⟨fr1, fr2⟩
            have HDA : Hid _ := And.intro d3 d4
            have HXA : Hid _ := x3
            have HAR : Hid _ := And.intro q3 q5
            have HN : Hid _ := And.intro hgp (And.intro hrem (And.intro hpop (And.intro hdd hdp)))
            have HKD : Hid _ := hkD
            have HDE : Hid _ := hDe
            have HFK : Hid _ := hFk
            clear o3 o4 t5 t6 fr1 fr2 d3 d4 x3 x4 q3 q4 q5 h e11 hgp hrem hpop hdd hdp hkD hDe hk hpl hFk hlen haX rdX
            obtain ⟨w0, rfl⟩ : ∃ w0 : World, w0 = wr := ⟨_, rfl⟩
            go_wp2
            go_loopw [27] (fun iv wq => ∃ i : Nat, i ≤ k ∧ iv = .int .i64 i ∧ ∃ m, wq = w0.drewN m) (fun iv _ => k - (intOf iv).toNat)
            case atStart => exact ⟨0, Nat.zero_le _, rfl, 0, rfl⟩
            case round =>
              obtain ⟨i, hi, rfl, m, rfl⟩ := hrel
              by_cases hlt : i < k
              · have hiK : (i : Int) < (k : Int) := by omega
                obtain ⟨lo, hlo⟩ : ∃ lo : Nat, i * c.P = lo := ⟨_, rfl⟩
                obtain ⟨hj, hhj⟩ : ∃ hj : Nat, lo + c.P = hj := ⟨_, rfl⟩
                have hjD : hj ≤ (cat X n).length := Nat.le_trans (by rw [← hhj, ← hlo, ← Nat.succ_mul]; exact Nat.mul_le_mul_right _ hlt) HKD.out
                have low : IntKind.i64.wrap ((i : Int) * (c.P : Int)) = (lo : Int) := by rw [← Int.natCast_mul, hlo, IntKind.wrap_i64]; omega
                have i1w : IntKind.i64.wrap ((i : Int) + 1) = (i : Int) + 1 := by rw [IntKind.wrap_i64]; omega
                have hjw : IntKind.i64.wrap (((i : Int) + 1) * (c.P : Int)) = (hj : Int) := by
                  have : ((i : Int) + 1) * (c.P : Int) = (hj : Int) := by rw [← hhj, ← hlo, Int.add_mul]; simp
                  rw [this, IntKind.wrap_i64]; omega
                have oi := HO.out.2 i hlt
                obtain rfl := HO.out.1 (by omega)
                obtain ⟨g, cp, di, rd1⟩ := HDA.out.2 i hlt
                obtain rfl := HDA.out.1 (by omega)
                obtain ⟨xg, hxa, rd2⟩ := HXA.out (by omega)
                subst hxa
                have hsl := slice_lohi xg (cat X n).length xc lo hj c.P (by omega) (by omega) (by omega)
                have HR1 : Hid _ := rd1
                have HR2 : Hid (∀ w' : World, w'.heap = w0.heap → Reads w' (.slice (some ⟨xg, lo, none⟩) c.P (xc - lo)) (strOfNums (pageOf c.P i (cat X n)))) := fun w' hw' => by
                  have e1 := rd2 w' hw' lo c.P (xc - lo) (by omega)
                  unfold pageOf
                  rwa [hlo]
                have HH : Hid _ := And.intro hlo hhj
                clear rd1 rd2 hlo hhj hjD
                by_cases hiL : i < c.L
                · have hiI : (i : Int) < (c.L : Int) := by omega
                  obtain ⟨q, hq⟩ : ∃ q : Nat, c.L = i + 1 + q := ⟨c.L - (i + 1), by omega⟩
                  have qI : (c.L : Int) - 1 - (i : Int) = (q : Int) := by omega
                  have qL : (q : Int) < (c.L : Int) := by omega
                  have c0 := HAR.out.2 q (by omega)
                  obtain rfl := (HAR.out.1 (by omega)).1
                  have oi2 : w0.cell? ⟨og, i, none⟩ = some (.int .i64 (c.frs.getD q 0)) := by rw [oi]; unfold offAt; rw [if_pos hiL, show c.L - 1 - i = q by omega]
                  clear hq oi
                  go_wp2
                  go_quiet ((go_at_call 7; refine quiet_same (beq_eq _ _ (strOfNums (pageOf c.P i (cat X n))) _ (HR1.out _ rfl) (HR2.out _ rfl))))
                  go_wp2
                  go_roundw
                  case rel => exact ⟨i + 1, by omega, by go_num, _, rfl⟩
                  case measure => simp [intOf]; omega
                · have hiI : ¬ (i : Int) < (c.L : Int) := by omega
                  obtain ⟨ed, hed⟩ : ∃ ed : Nat, i - c.L = ed := ⟨_, rfl⟩
                  have edI : (i : Int) - (c.L : Int) = (ed : Int) := by omega
                  obtain ⟨ep, hep⟩ : ∃ ep : Nat, ed * c.P = ep := ⟨_, rfl⟩
                  have ep5 : ep ≤ 4096 := by rw [← hep]; exact Nat.le_trans (Nat.mul_le_mul_right _ (by omega : ed ≤ k)) (Nat.le_trans HKD.out hle)
                  have epw : IntKind.i64.wrap ((ed : Int) * (c.P : Int)) = (ep : Int) := by rw [← Int.natCast_mul, hep, IntKind.wrap_i64]; omega
                  have oi2 : w0.cell? ⟨og, i, none⟩ = some (.int .i64 (IntKind.i64.wrap (en + (ep : Int)))) := by rw [oi]; unfold offAt enAt; rw [if_neg hiL, hed, hep]
                  clear hed hep oi
                  go_wp2
                  go_quiet ((go_at_call 7; refine quiet_same (beq_eq _ _ (strOfNums (pageOf c.P i (cat X n))) _ (HR1.out _ rfl) (HR2.out _ rfl))))
                  go_wp2
                  go_roundw
                  case rel => exact ⟨i + 1, by omega, by go_num, _, rfl⟩
                  case measure => simp [intOf]; omega
              · obtain rfl : i = k := by omega
                go_wp2
                go_quiet ((go_at_call 12; refine quiet_any (sleqN pa oa i pc oc pgk 0 og 0 (offAt c en) _ (by omega) HPS.out.1 (fun h => HO.out.1 (by have := HFK.out; omega)) (fun j hj => by rw [Nat.zero_add]; exact HPS.out.2 j hj) (fun j hj => by rw [Nat.zero_add]; exact HO.out.2 j (by have := HFK.out; omega)))))
                go_wp2
                go_quiet ((go_at_call 7; refine quiet_same (beq_eq _ _ (strOfNums bs) _ (HBUF.out _ rfl) (HRX.out _ rfl))))
                go_wp2
                go_quiet ((go_at_call 12; refine quiet_any (sleqN c.fa fa0 rem c.fcap fc fg 0 fb fo (fun j => c.frs.getD j 0) _ (by omega) (fun h => HFR.out.1 (by have := HN.out.2.1; omega)) (fun h => (HAR.out.1 (by have := HN.out.2.1; omega)).1) (fun j hj => by rw [Nat.zero_add]; exact HFR.out.2 j (by have := HN.out.2.1; omega)) (fun j hj => HAR.out.2 j (by have := HN.out.2.1; omega)))))
                go_wp2
                go_ret
                refine ⟨rfl, ?_⟩
                have hb := HBEL.out
                rw [HI.out.2.1, HI.out.2.2.1] at hb
                exact ⟨hb.os, hb.tape, hb.output, hb.size, hb.block⟩
          · obtain ⟨vo, vd, vp, dv, k, pgs, bs, rest, hk, hpl, hbl, hDe, hFk, h⟩ := hFd
            have hpl2 : ∀ p ∈ pgs ++ [bs], p.length = c.P := by intro p hp; rcases List.mem_append.1 hp with h' | h'; (exact hpl p h'); (obtain rfl := List.mem_singleton.1 h'; exact hbl)
            have hk2 : (pgs ++ [bs]).length = k + 1 := by simp [hk]
            have hkD : c.F * c.P ≤ (cat X n).length := by rw [hDe, List.length_append, flat_len _ hpl2, hk2, hFk]; omega
            obtain ⟨kq, hdiv, hkq⟩ : ∃ kq : Nat, ((cat X n).length : Int).tdiv (c.P : Int) = (kq : Int) ∧ kq ≤ 4096 := ⟨(cat X n).length / c.P, rfl, Nat.le_trans (Nat.div_le_self _ _) hle⟩
            have hpk : pageOf c.P k (cat X n) = bs := by rw [hDe]; exact page_at _ rest k bs hpl2 (by rw [List.getElem?_append_right (by omega), hk, Nat.sub_self]; rfl)
            rw [hFk] at h hk2
            obtain ⟨da, dc, dg, s1, d1, d2, d3, d4⟩ := h.pagesT (rest := rest) hk2 hpl2 hDe
            obtain ⟨oa, oc, og, s0, o1, o2, o3, o4⟩ := h.offsT
            obtain ⟨pa, pc, pgk, t2, t3, t4, t5, t6⟩ := h.psT
            obtain ⟨fg, fr1, fr2⟩ := h.freeT ok.fl
            obtain ⟨xa, xc, hxv, x1, x2, x3, x4⟩ := h.dataT
            subst hxv
            obtain ⟨fb, fo, q1, q2, q3, q4⟩ := freeArg wo fa0 c.L fc frs HPF.out HF.out
            have q5 : ∀ j, j < c.L → wr.cell? ⟨fb, fo + j, none⟩ = some (.int .i64 (c.frs.getD j 0)) := fun j hj => (h.bel.cell (by rw [HI.out.2.2.1]; exact (q3 (by omega)).2)).trans (by rw [HI.out.2.1, HI.out.2.2.2]; exact q4 j hj)
            have s2 := four_cell2 h.stub
            have s3 := four_cell3 h.stub
            have c1 := five_cell1 h.wr
            have c3 := five_cell3 h.wr
            have c4 := five_cell4 h.wr
            have e11 := FC_cell11 h.find
            have e12 := FC_cell12 h.find
            have HBUF : Hid _ := h.bufT
            have HBEL : Hid _ := h.bel
            have hkk : c.F ≤ 4096 := by omega
            obtain ⟨gp, hgp⟩ : ∃ gp : Nat, k * c.P = gp := ⟨_, rfl⟩
            rw [hgp] at c3
            have gp5 : gp ≤ 4096 := by rw [← hFk, Nat.succ_mul] at hkD; omega
            have gpw : IntKind.i64.wrap ((k : Int) * (c.P : Int)) = (gp : Int) := by rw [← Int.natCast_mul, hgp, IntKind.wrap_i64]; omega
            obtain ⟨rem, hrem⟩ : ∃ rem : Nat, c.L - c.F = rem := ⟨_, rfl⟩
            rw [hrem] at e12
            obtain ⟨pop, hpop⟩ : ∃ pop : Nat, min c.F c.L = pop := ⟨_, rfl⟩
            have popI : (if c.L < c.F then (c.L : Int) else (c.F : Int)) = (pop : Int) := by split <;> omega
            have remI : (c.L : Int) - (pop : Int) = (rem : Int) := by omega
            obtain ⟨dd, hdd⟩ : ∃ dd : Nat, c.F - c.L = dd := ⟨_, rfl⟩
            have ddI : (c.F : Int) - (pop : Int) = (dd : Int) := by omega
            obtain ⟨dp, hdp⟩ : ∃ dp : Nat, dd * c.P = dp := ⟨_, rfl⟩
            have dp5 : dp ≤ 4096 := by rw [← hdp]; exact Nat.le_trans (Nat.mul_le_mul_right _ (by omega : dd ≤ c.F)) (Nat.le_trans hkD hle)
            have dpw : IntKind.i64.wrap ((dd : Int) * (c.P : Int)) = (dp : Int) := by rw [← Int.natCast_mul, hdp, IntKind.wrap_i64]; omega
            have e11' : wr.cell? ⟨c.FB, 11, none⟩ = some (.int .i64 (IntKind.i64.wrap (en + (dp : Int)))) := by rw [e11]; unfold enAt; rw [hdd, hdp]
            have remW : IntKind.i64.wrap (rem : Int) = (rem : Int) := by rw [IntKind.wrap_i64]; omega
            have popb : pop ≤ 256 := by omega
            have remb : rem ≤ 256 := by omega
            have ddb : dd ≤ 4096 := by omega
            have hslO := slice_hi oa c.F oc k (by omega) o2
            have hslF := slice_hi fa0 c.L fc rem (by omega) q2
            obtain ⟨xg, hxa, rdX⟩ := x3 (by have := HFP.out; have : 0 < c.F * c.P := Nat.mul_pos (by omega) (by omega); omega)
            subst hxa
            have gfp : gp + c.P = fp := by rw [← HFP.out, ← hFk, Nat.succ_mul, hgp]
            have hslD := slice_lohi xg (cat X n).length xc gp fp c.P (by omega) (by have := HFP.out; omega) (by omega)
            have HRX : Hid (∀ w' : World, w'.heap = wr.heap → Reads w' (.slice (some ⟨xg, gp, none⟩) c.P (xc - gp)) (strOfNums bs)) := fun w' hw' => by
              have e1 := rdX w' hw' gp c.P (xc - gp) (by have := HFP.out; omega)
              have e3 : ((cat X n).drop gp).take c.P = bs := by rw [← hgp]; exact hpk
              rwa [e3] at e1
            have gI : (c.F : Int) - 1 = (k : Int) := by omega
            have kW : IntKind.i64.wrap (k : Int) = (k : Int) := by rw [IntKind.wrap_i64]; omega
            have hbl2 : Hid (bs.length = c.P) := hbl
            clear hbl
            have HO : Hid ((0 < c.F → oa = some ⟨og, 0, none⟩) ∧ ∀ j, j < c.F → wr.cell? ⟨og, j, none⟩ = some (.int .i64 (offAt c en j))) := ⟨o3, o4⟩
            have HPS : Hid ((0 < k → pa = some ⟨pgk, 0, none⟩) ∧ ∀ j, j < k → wr.cell? ⟨pgk, j, none⟩ = some (.int .i64 (offAt c en j))) := ⟨t5, t6⟩
            have HFR : Hid ((0 < c.L → c.fa = some ⟨fg, 0, none⟩) ∧ ∀ j, j < c.L → wr.cell? ⟨fg, j, none⟩ = some (.int .i64 (c.frs.getD j 0))) := ⟨fr1, fr2⟩
            have HDA : Hid _ := And.intro d3 d4
            have HXA : Hid _ := rdX
            have HAR : Hid _ := And.intro q3 q5
            have HN : Hid _ := And.intro hgp (And.intro hrem (And.intro hpop (And.intro hdd hdp)))
            have HKD : Hid _ := hkD
            have HDE : Hid _ := hDe
            have HFK : Hid _ := hFk
            clear o3 o4 t5 t6 fr1 fr2 d3 d4 x4 q3 q4 q5 h e11 hgp hrem hpop hdd hdp hkD hDe hk hpl hFk hpl2 hk2 hpk rdX gfp
            obtain ⟨w0, rfl⟩ : ∃ w0 : World, w0 = wr := ⟨_, rfl⟩
            go_wp2
            go_loopw [27] (fun iv wq => ∃ i : Nat, i ≤ c.F ∧ iv = .int .i64 i ∧ ∃ m, wq = w0.drewN m) (fun iv _ => c.F - (intOf iv).toNat)
            case atStart => exact ⟨0, Nat.zero_le _, rfl, 0, rfl⟩
            case round =>
              obtain ⟨i, hi, rfl, m, rfl⟩ := hrel
              by_cases hlt : i < c.F
              · have hiK : (i : Int) < (c.F : Int) := by omega
                obtain ⟨lo, hlo⟩ : ∃ lo : Nat, i * c.P = lo := ⟨_, rfl⟩
                obtain ⟨hj, hhj⟩ : ∃ hj : Nat, lo + c.P = hj := ⟨_, rfl⟩
                have hjD : hj ≤ (cat X n).length := Nat.le_trans (by rw [← hhj, ← hlo, ← Nat.succ_mul]; exact Nat.mul_le_mul_right _ hlt) HKD.out
                have low : IntKind.i64.wrap ((i : Int) * (c.P : Int)) = (lo : Int) := by rw [← Int.natCast_mul, hlo, IntKind.wrap_i64]; omega
                have i1w : IntKind.i64.wrap ((i : Int) + 1) = (i : Int) + 1 := by rw [IntKind.wrap_i64]; omega
                have hjw : IntKind.i64.wrap (((i : Int) + 1) * (c.P : Int)) = (hj : Int) := by
                  have : ((i : Int) + 1) * (c.P : Int) = (hj : Int) := by rw [← hhj, ← hlo, Int.add_mul]; simp
                  rw [this, IntKind.wrap_i64]; omega
                have oi := HO.out.2 i hlt
                obtain rfl := HO.out.1 (by omega)
                obtain ⟨g, cp, di, rd1⟩ := HDA.out.2 i hlt
                obtain rfl := HDA.out.1 (by omega)
                have rd2 := HXA.out
                have hsl := slice_lohi xg (cat X n).length xc lo hj c.P (by omega) (by omega) (by omega)
                have HR1 : Hid _ := rd1
                have HR2 : Hid (∀ w' : World, w'.heap = w0.heap → Reads w' (.slice (some ⟨xg, lo, none⟩) c.P (xc - lo)) (strOfNums (pageOf c.P i (cat X n)))) := fun w' hw' => by
                  have e1 := rd2 w' hw' lo c.P (xc - lo) (by omega)
                  unfold pageOf
                  rwa [hlo]
                have HH : Hid _ := And.intro hlo hhj
                clear rd1 rd2 hlo hhj hjD
                by_cases hiL : i < c.L
                · have hiI : (i : Int) < (c.L : Int) := by omega
                  obtain ⟨q, hq⟩ : ∃ q : Nat, c.L = i + 1 + q := ⟨c.L - (i + 1), by omega⟩
                  have qI : (c.L : Int) - 1 - (i : Int) = (q : Int) := by omega
                  have qL : (q : Int) < (c.L : Int) := by omega
                  have c0 := HAR.out.2 q (by omega)
                  obtain rfl := (HAR.out.1 (by omega)).1
                  have oi2 : w0.cell? ⟨og, i, none⟩ = some (.int .i64 (c.frs.getD q 0)) := by rw [oi]; unfold offAt; rw [if_pos hiL, show c.L - 1 - i = q by omega]
                  clear hq oi
                  go_wp2
                  go_quiet ((go_at_call 7; refine quiet_same (beq_eq _ _ (strOfNums (pageOf c.P i (cat X n))) _ (HR1.out _ rfl) (HR2.out _ rfl))))
                  go_wp2
                  go_roundw
                  case rel => exact ⟨i + 1, by omega, by go_num, _, rfl⟩
                  case measure => simp [intOf]; omega
                · have hiI : ¬ (i : Int) < (c.L : Int) := by omega
                  obtain ⟨ed, hed⟩ : ∃ ed : Nat, i - c.L = ed := ⟨_, rfl⟩
                  have edI : (i : Int) - (c.L : Int) = (ed : Int) := by omega
                  obtain ⟨ep, hep⟩ : ∃ ep : Nat, ed * c.P = ep := ⟨_, rfl⟩
                  have ep5 : ep ≤ 4096 := by rw [← hep]; exact Nat.le_trans (Nat.mul_le_mul_right _ (by omega : ed ≤ c.F)) (Nat.le_trans HKD.out hle)
                  have epw : IntKind.i64.wrap ((ed : Int) * (c.P : Int)) = (ep : Int) := by rw [← Int.natCast_mul, hep, IntKind.wrap_i64]; omega
                  have oi2 : w0.cell? ⟨og, i, none⟩ = some (.int .i64 (IntKind.i64.wrap (en + (ep : Int)))) := by rw [oi]; unfold offAt enAt; rw [if_neg hiL, hed, hep]
                  clear hed hep oi
                  go_wp2
                  go_quiet ((go_at_call 7; refine quiet_same (beq_eq _ _ (strOfNums (pageOf c.P i (cat X n))) _ (HR1.out _ rfl) (HR2.out _ rfl))))
                  go_wp2
                  go_roundw
                  case rel => exact ⟨i + 1, by omega, by go_num, _, rfl⟩
                  case measure => simp [intOf]; omega
              · obtain rfl : i = c.F := by omega
                go_wp2
                go_quiet ((go_at_call 12; refine quiet_any (sleqN pa oa k pc oc pgk 0 og 0 (offAt c en) _ (by omega) HPS.out.1 (fun h => HO.out.1 (by have := HFK.out; omega)) (fun j hj => by rw [Nat.zero_add]; exact HPS.out.2 j hj) (fun j hj => by rw [Nat.zero_add]; exact HO.out.2 j (by have := HFK.out; omega)))))
                go_wp2
                go_quiet ((go_at_call 7; refine quiet_same (beq_eq _ _ (strOfNums bs) _ (HBUF.out _ rfl) (HRX.out _ rfl))))
                go_wp2
                go_quiet ((go_at_call 12; refine quiet_any (sleqN c.fa fa0 rem c.fcap fc fg 0 fb fo (fun j => c.frs.getD j 0) _ (by omega) (fun h => HFR.out.1 (by have := HN.out.2.1; omega)) (fun h => (HAR.out.1 (by have := HN.out.2.1; omega)).1) (fun j hj => by rw [Nat.zero_add]; exact HFR.out.2 j (by have := HN.out.2.1; omega)) (fun j hj => HAR.out.2 j (by have := HN.out.2.1; omega)))))
                go_wp2
                go_ret
                refine ⟨rfl, ?_⟩
                have hb := HBEL.out
                rw [HI.out.2.1, HI.out.2.2.1] at hb
                exact ⟨hb.os, hb.tape, hb.output, hb.size, hb.block⟩

end Go.Proofs.Ybulkclou.Pg
