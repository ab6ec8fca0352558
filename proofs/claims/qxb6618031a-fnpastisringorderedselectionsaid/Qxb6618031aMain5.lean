import Derived.Test.Qxb6618031aPlace5
set_option linter.unusedVariables false
namespace Go.Proofs.Qxb6618031a
open Go.RowKit Go.Sort

set_option maxRecDepth 100000 in
set_option maxHeartbeats 4000000 in
theorem fn5_main (x y : W3) (so ao : Option Addr) (m mc n cap : Nat) (fs Z : Nat → W3) (keep : Int) (w : World) (hx : Fit x) (hy : Fit y) (hm : m ≤ 4096) (hn : n ≤ 4096) (hS : RowO w so m fs) (hR : RowO w ao n Z) (hZ : ∀ i, i < n → Fit (Z i)) :
    Calls Try.prog 5 #[.agg #[.int .u64 x.1, .int .u64 x.2.1, .int .u64 x.2.2], .agg #[.int .u64 y.1, .int .u64 y.2.1, .int .u64 y.2.2], .slice so m mc, .int .i64 keep, .slice ao n cap] w fun e w' => e = .returned (.bool true) ∧ Below w.heap.size w w' := by
  have hE : Ext w ((w.alloc (box28 x)).alloc (box28 y)) := ((Ext.refl w).alloc _).alloc _
  obtain ⟨hbx, hby⟩ := heap2 w (box28 x) (box28 y)
  go_enter Try.func5, Try.ntmps5
  go_upto_region 1 with fail
  change Code.wp _ _ _ _ ((w.alloc (box28 x)).alloc (box28 y))
  generalize (w.alloc (box28 x)).alloc (box28 y) = V0 at hE hbx hby ⊢
  obtain ⟨x0, x1, x2⟩ := boxed28 hbx
  obtain ⟨y0, y1, y2⟩ := boxed28 hby
  go_upto_region 5 with (go_at_call 16; refine (bytes16_ok x y _ _ _ _ _ _ _ _ (by omega)).mono ?_; rintro e w1 ⟨rfl, hE1⟩)
  have hE01 := hE.trans hE1
  have hbx1 := hE1.keeps hbx
  have hby1 := hE1.keeps hby
  clear x0 x1 x2 y0 y1 y2 hbx hby hE1 hE
  go_upto_region 6 with ((go_at_call 8; refine (toIDs_o ao n cap Z _ (by omega) (hR.ext hE01)).mono ?_; rintro e w2 ⟨rfl, hE2, hB2⟩))
  have hEw2 := hE01.trans hE2
  have hbx2 := hE2.keeps hbx1
  have hby2 := hE2.keeps hby1
  obtain ⟨x0, x1, x2⟩ := boxed28 hbx2
  obtain ⟨y0, y1, y2⟩ := boxed28 hby2
  clear hbx1 hby1 hE2 hE01
  go_cut [12] (fun v wx => PlacePost w2 x y keep m fs v wx)
  case first =>
    have hS2 := hS.ext hEw2
    go_region_held3 (fun w' => Ext w2 w' ∧ w'.cell? ⟨w.heap.size, 0, none⟩ = some (.int .u64 x.1) ∧ w'.cell? ⟨w.heap.size, 1, none⟩ = some (.int .u64 x.2.1) ∧ w'.cell? ⟨w.heap.size, 2, none⟩ = some (.int .u64 x.2.2) ∧
      w'.cell? ⟨w.heap.size + 1, 0, none⟩ = some (.int .u64 y.1) ∧ w'.cell? ⟨w.heap.size + 1, 1, none⟩ = some (.int .u64 y.2.1) ∧ w'.cell? ⟨w.heap.size + 1, 2, none⟩ = some (.int .u64 y.2.2))
      ((refine six_of ?_ hbx2 hby2; repeat (first | with_reducible exact Ext.refl _ | with_reducible assumption | with_reducible apply Ext.drew | with_reducible apply Ext.alloc | (refine Ext.setCell ?_ ?_ _; rotate_left; (first | with_reducible exact Nat.le_refl _ | (refine Ext.size ?_; with_reducible assumption))))))
      (first
        | (go_at_call 17; refine (zzid_e (w2 := w2) _ _ _ _ ?_).mono ?_; (repeat (first | with_reducible exact Ext.refl _ | with_reducible assumption | with_reducible apply Ext.drew | with_reducible apply Ext.alloc)); rintro e w9 ⟨rfl, hE9, hV9⟩; (first | (with_reducible (have hz9 := hV9.keepz (by assumption)); obtain ⟨k0, k1, k2, k3, k4, k5, k6, k7, k8⟩ := zero_cells hz9) | (with_reducible (have hz9 := hV9.keepz (alloc_zero _)); obtain ⟨k0, k1, k2, k3, k4, k5, k6, k7, k8⟩ := zero_cells hz9) | skip))
        | (go_at_call 8; refine (toIDs_e (w2 := w2) so m mc fs _ ?_ hm hS2).mono ?_; (repeat (first | with_reducible exact Ext.refl _ | with_reducible assumption | with_reducible apply Ext.drew | with_reducible apply Ext.alloc)); rintro e w9 ⟨bs, rfl, hE9, hV9, hbs, hBs, hbw⟩; (first | (with_reducible (have hz9 := hV9.keepz (by assumption)); obtain ⟨k0, k1, k2, k3, k4, k5, k6, k7, k8⟩ := zero_cells hz9) | (with_reducible (have hz9 := hV9.keepz (alloc_zero _)); obtain ⟨k0, k1, k2, k3, k4, k5, k6, k7, k8⟩ := zero_cells hz9) | skip)))
    all_goals (go_wp2_with fail)
    all_goals go_meet
    · exact place_alloc hE9 hBs hbw
    all_goals (refine place_stored hE9 hz9 ?_ ?_ hbs hBs hbw)
    all_goals (first | with_reducible exact Nat.le_refl _ | with_reducible exact alloc_zero _ | with_reducible assumption | (refine Ext.size ?_; with_reducible assumption))
  case rest =>
    obtain ⟨hEp, bp, bs, rfl, hP, hBs, hbp, hbs⟩ := hcut
    have hbxc := hEp.keeps hbx2
    have hbyc := hEp.keeps hby2
    have hEwc := hEw2.trans hEp
    have hB2c := hB2.ext hEp
    have hsz0 : w.heap.size + 1 < wc.heap.size := (Array.getElem?_eq_some_iff.1 hbyc).1
    clear x0 x1 x2 y0 y1 y2 hbx2 hby2 hB2
    go_upto_region 8 with ((go_at_call 12; refine (zzpast_o bp x y keep bs m fs _ n Z wc hP hBs hB2c (by omega) (by omega)).mono ?_; rintro e w4 ⟨go, gl, gc, rfl, hgl, hB4, hgot⟩))
    have hbx4 : w4.heap[w.heap.size]? = some (box28 x) := (hB4.block _ (by omega)).trans hbxc
    have hby4 : w4.heap[w.heap.size + 1]? = some (box28 y) := (hB4.block _ (by omega)).trans hbyc
    have hBw4 : Below w.heap.size w w4 := hEwc.below.trans (hB4.mono hEwc.size)
    have hsz4 : w.heap.size + 1 < w4.heap.size := (Array.getElem?_eq_some_iff.1 hby4).1
    have HGL := hgl
    clear hP hBs hB2c hbxc hbyc hgl hB4
    go_upto_region 9 with fail
    have hE5 : Ext w4 (w4.alloc (box28 (0, 0, 0))) := (Ext.refl w4).alloc _
    have hbz5 : (w4.alloc (box28 (0, 0, 0))).heap[w4.heap.size]? = some (box28 (0, 0, 0)) := by show (w4.heap.push _)[w4.heap.size]? = _; simp
    change Code.wp _ _ _ _ (w4.alloc (box28 (0, 0, 0)))
    generalize w4.alloc (box28 (0, 0, 0)) = V5 at hE5 hbz5 ⊢
    have hbx5 := hE5.keeps hbx4
    have hby5 := hE5.keeps hby4
    obtain ⟨bd, hbd⟩ : ∃ bd, bd = subF y x := ⟨_, rfl⟩
    have hsub := fun V => sub3_any y x V hy.wd hx.wd
    rw [← hbd] at hsub
    have HBD : Hid _ := hbd
    clear hbd
    obtain ⟨x0, x1, x2⟩ := boxed28 hbx5
    obtain ⟨y0, y1, y2⟩ := boxed28 hby5
    go_upto_region 10 with ((go_at_call 18; refine (hsub _).mono ?_; rintro e w6 ⟨rfl, hE6⟩))
    have hEb : Ext w6 (w6.alloc (box28 bd)) := (Ext.refl w6).alloc _
    have hbb7 : (w6.alloc (box28 bd)).heap[w6.heap.size]? = some (box28 bd) := by show (w6.heap.push _)[w6.heap.size]? = _; simp
    change Code.wp _ _ _ _ (w6.alloc (box28 bd))
    generalize w6.alloc (box28 bd) = V7 at hEb hbb7 ⊢
    have hE67 := hE6.trans hEb
    have hbx7 := hE67.keeps hbx5
    have hbz7 := hE67.keeps hbz5
    have hE47 := hE5.trans hE67
    have hs47 := hE47.size
    have hs46 := (hE5.trans hE6).size
    have hgot7 := hgot.ext hE47
    have hBw7 : Below w.heap.size w V7 := hBw4.trans (hE47.below.mono hBw4.size)
    have hz4 : w4.heap.size < V5.heap.size := (Array.getElem?_eq_some_iff.1 hbz5).1
    have hz6 : V5.heap.size ≤ w6.heap.size := hE6.size
    have hz7 : w6.heap.size < V7.heap.size := (Array.getElem?_eq_some_iff.1 hbb7).1
    clear x0 x1 x2 y0 y1 y2 hbx5 hby5 hbz5 hE6 hEb hE5 hgot hbx4 hby4 hsub
    obtain ⟨z0, z1, z2⟩ := boxed28 hbz7
    obtain ⟨b0, b1, b2⟩ := boxed28 hbb7
    have h28 := fun x w => eql28 x (0, 0, 0) w
    have g28 := guard28
    obtain ⟨wh, hwh⟩ : ∃ wh, wh = eq3 bd (0, 0, 0) := ⟨_, rfl⟩
    have HWH : Hid _ := hwh
    go_upto_region 11 with fail
    rw [← hwh]
    clear hwh z0 z1 z2 b0 b1 b2
    have hmk := run_make22 n (by omega)
    go_upto_region 13 with fail
    have h2 := heap2 V7 (.cells (made3 n) 28 (0, 0)) (.cells (made3 n) 28 (0, 0))
    have hEm : Ext V7 ((V7.alloc (.cells (made3 n) 28)).alloc (.cells (made3 n) 28)) := ((Ext.refl V7).alloc _).alloc _
    change Code.wp _ _ _ _ ((V7.alloc (.cells (made3 n) 28)).alloc (.cells (made3 n) 28))
    generalize (V7.alloc (.cells (made3 n) 28)).alloc (.cells (made3 n) 28) = W0 at h2 hEm ⊢
    have hwb0 : BufW W0 V7.heap.size n 0 (fun _ => (0, 0, 0)) := BufW.made _ h2.1
    have hfb0 : BufW W0 (V7.heap.size + 1) n 0 (fun j => subF ((fun _ => (0, 0, 0)) j) x) := BufW.made _ h2.2
    have hbx := hEm.keeps hbx7
    have hbz := hEm.keeps hbz7
    have hbb := hEm.keeps hbb7
    have hgotW := hgot7.ext hEm
    have hBW : Below w.heap.size w W0 := hBw7.trans (hEm.below.mono hBw7.size)
    have hRW : RowO W0 ao n Z := hR.of_below hBW
    have hSW : RowO W0 so m fs := hS.of_below hBW
    have hRl := hR.lt
    have hSl := hS.lt
    have hgl7 := hgot7.lt
    obtain ⟨bw, hbw⟩ : ∃ bw, bw = V7.heap.size := ⟨_, rfl⟩
    obtain ⟨bf, hbf⟩ : ∃ bf, bf = V7.heap.size + 1 := ⟨_, rfl⟩
    rw [← hbf] at hfb0
    rw [← hbf, ← hbw]
    rw [← hbw] at hwb0 hgl7
    have hE0 : EN W0 w bw bf so ao m n fs Z x bd go gl (fun i => (pastL x y fs m Z n)[i]!) w4.heap.size w6.heap.size :=
      ⟨hbx, hbz, hbb, hRW, hSW, hgotW.row hgl7, hBW, by omega, by omega, by omega, by omega, hwb0.lt, hfb0.lt, by omega, by omega, hRl, hSl⟩
    obtain ⟨i0, hi, hz, hs, hb⟩ := info_parts info28
    clear hz hb
    clear hbw hbf hs47 hs46 hz4 hz6 hz7 hsz0 hsz4 hbp hbs hRl hSl hgl7 hbx hbz hbb hRW hSW hgotW hBW hbx7 hbz7 hbb7 hgot7 hEm hmk h2 hEwc hEp hEw2 hBw4 hBw7 hE67 hE47
    go_wp2
    go_loopw [19, 17, 18] (fun v19 v17 v18 wr => ∃ (t L : Nat) (F : Nat → W3), t ≤ n ∧ v19 = .int .i64 t ∧ v17 = .slice (some ⟨bw, 0, none⟩) L n ∧ v18 = .slice (some ⟨bf, 0, none⟩) L n ∧ OS W0 wr bw bf n L F x ∧ Want x y fs m Z t L F) (fun v19 _ _ _ => n - (intOf v19).toNat)
    case atStart => exact ⟨0, 0, _, by omega, rfl, rfl, rfl, ⟨Fr.refl _ _ _, hwb0, hfb0⟩, Want.start x y fs m Z _⟩
    case round =>
      obtain ⟨t, L, F, htn, rfl, rfl, rfl, hOS, hWant⟩ := hrel
      have HW : Hid _ := hWant
      have hLt := hWant.le
      clear hWant hwb0 hfb0
      by_cases hlt : t < n
      · obtain ⟨b, off, rfl, hRr⟩ := hE0.ws' hOS.fr (by omega)
        obtain ⟨a0, a1, a2⟩ := hRr.at hlt
        have hFz : Fit (Z t) := hZ t hlt
        obtain ⟨d, hd⟩ : ∃ d, d = subF (Z t) x := ⟨_, rfl⟩
        have hsub := fun V => sub3_any (Z t) x V hFz.wd hx.wd
        rw [← hd] at hsub
        have HD : Hid _ := hd
        clear hd
        go_upto_region 17 with fail
        have hEz : Ext wr (wr.alloc (box28 (Z t))) := (Ext.refl wr).alloc _
        have hzb : (wr.alloc (box28 (Z t))).heap[wr.heap.size]? = some (box28 (Z t)) := by show (wr.heap.push _)[wr.heap.size]? = _; simp
        change Code.wp _ _ _ _ (wr.alloc (box28 (Z t)))
        have hO1 := hOS.ext hEz
        clear a0 a1 a2 hRr
        generalize wr.alloc (box28 (Z t)) = V1 at hEz hzb hO1 ⊢
        obtain ⟨z0, z1, z2⟩ := boxed28 hzb
        obtain ⟨x0, x1, x2⟩ := boxed28 (hO1.fr.heap hE0.bx (Nat.ne_of_lt hE0.lw) (Nat.ne_of_lt (Nat.lt_trans hE0.lw hE0.lf)))
        go_upto_region 18 with ((go_at_call 18; refine (hsub _).mono ?_; rintro e w1 ⟨rfl, hE1⟩))
        have hEd : Ext w1 (w1.alloc (box28 d)) := (Ext.refl w1).alloc _
        have hdb : (w1.alloc (box28 d)).heap[w1.heap.size]? = some (box28 d) := by show (w1.heap.push _)[w1.heap.size]? = _; simp
        change Code.wp _ _ _ _ (w1.alloc (box28 d))
        have hO2 := hO1.ext (hE1.trans hEd)
        have hzb2 := (hE1.trans hEd).keeps hzb
        clear z0 z1 z2 x0 x1 x2 hsub hzb
        generalize w1.alloc (box28 d) = V2 at hEd hdb hO2 hzb2 ⊢
        have hw1 : W0.heap.size ≤ w1.heap.size := Nat.le_trans hOS.fr.size (Nat.le_trans hEz.size hE1.size)
        clear hO1 hOS hEz hE1 hEd
        have hlz : w4.heap.size ≠ bw := Nat.ne_of_lt hE0.lz
        have hlzf : w4.heap.size ≠ bf := Nat.ne_of_lt (Nat.lt_trans hE0.lz hE0.lf)
        have hlb : w6.heap.size ≠ bw := Nat.ne_of_lt hE0.lb
        have hlbf : w6.heap.size ≠ bf := Nat.ne_of_lt (Nat.lt_trans hE0.lb hE0.lf)
        have HLZ : Hid _ := hlz
        have HLZF : Hid _ := hlzf
        have HLB : Hid _ := hlb
        have HLBF : Hid _ := hlbf
        clear hlz hlzf hlb hlbf
        obtain ⟨d0, d1, d2⟩ := boxed28 hdb
        obtain ⟨o0, o1, o2⟩ := boxed28 (hO2.fr.heap hE0.bzero HLZ.out HLZF.out)
        rcases Bool.eq_false_or_eq_true (eq3 d (0, 0, 0)) with hA | hA
        · go_wp2
          go_roundw
          case rel =>
            refine ⟨t + 1, L, F, by omega, by go_num, rfl, rfl, hO2, HW.out.skip fun hsel => ?_⟩
            have := ((between_sub hx hy hFz).1 hsel.2.1).1
            rw [← HD.out] at this
            exact absurd ((eq3_iff _ _).1 hA) this
          case measure => simp [intOf]; omega
        have hd0 : Hid (subF (Z t) x ≠ (0, 0, 0)) := fun e => by
          rw [HD.out, (eq3_iff _ _).2 e] at hA
          cases hA
        have hzx : Hid (Z t ≠ x) := fun e => hd0.out ((sub_zero hFz hx).2 e)
        obtain ⟨c0, c1, c2⟩ := boxed28 (hO2.fr.heap hE0.bbound HLB.out HLBF.out)
        go_upto_region 19 with fail
        clear o0 o1 o2
        cases wh with
        | true =>
          have hbt : Hid (Ring.before x (Z t) y) := by
            refine (between_sub hx hy hFz).2 ⟨hd0.out, Or.inl ?_⟩
            rw [← HBD.out]
            exact (eq3_iff _ _).1 HWH.out.symm
          go_upto_region 20 with fail
          clear d0 d1 d2 c0 c1 c2 hA
          have hO3 := hO2
          have hzb3 := hzb2
          have hdb3 := hdb
          clear hO2 hzb2 hdb
          rcases Bool.eq_false_or_eq_true (containsB fs m (Z t)) with hC | hC
          · have HC := fun V hV => holds_any so m mc fs (Z t) V (by omega) hV
            rw [hC] at HC
            obtain ⟨z0, z1, z2⟩ := boxed28 hzb3
            go_wp2_with ((go_at_call 20; refine (HC _ (hE0.succs' hO3.fr)).mono ?_; rintro e w6 ⟨rfl, hE6⟩))
            go_roundw
            case rel =>
              refine ⟨t + 1, L, F, by omega, by go_num, rfl, rfl, hO3.ext hE6, HW.out.skip fun hsel => ?_⟩
              obtain ⟨j, hj, e⟩ := (containsB_iff fs m (Z t)).1 hC
              exact absurd e (hsel.2.2 j hj)
            case measure => simp [intOf]; omega
          have hns : Hid (∀ j, j < m → fs j ≠ Z t) := fun j hj e => by
            rw [(containsB_iff fs m (Z t)).2 ⟨j, hj, e⟩] at hC
            cases hC
          rcases Bool.eq_false_or_eq_true (containsB F L (Z t)) with hD | hD
          · have HC := fun V hV => holds_any so m mc fs (Z t) V (by omega) hV
            rw [hC] at HC
            have HC2 := fun V (hV : BufW V bw n L F) => holds_row bw 0 L n F (Z t) V (by omega) hV.row
            rw [hD] at HC2
            obtain ⟨z0, z1, z2⟩ := boxed28 hzb3
            go_wp2_with (first | (go_at_call_of 20 (Value.slice (some ⟨bw, 0, none⟩) L n); refine (HC2 _ (hO3.want.ext hE6)).mono ?_; rintro e w7 ⟨rfl, hE7⟩) | (go_at_call 20; refine (HC _ (hE0.succs' hO3.fr)).mono ?_; rintro e w6 ⟨rfl, hE6⟩; have z0 := (boxed28 (hE6.keeps hzb3)).1; have z1 := (boxed28 (hE6.keeps hzb3)).2.1; have z2 := (boxed28 (hE6.keeps hzb3)).2.2))
            go_roundw
            case rel => exact ⟨t + 1, L, F, by omega, by go_num, rfl, rfl, (hO3.ext hE6).ext hE7, HW.out.skip fun _ => (containsB_iff F L (Z t)).1 hD⟩
            case measure => simp [intOf]; omega
          have hno : Hid (∀ j, j < L → F j ≠ Z t) := fun j hj e => by
            rw [(containsB_iff F L (Z t)).2 ⟨j, hj, e⟩] at hD
            cases hD
          have HC := fun V hV => holds_any so m mc fs (Z t) V (by omega) hV
          rw [hC] at HC
          have HC2 := fun V (hV : BufW V bw n L F) => holds_row bw 0 L n F (Z t) V (by omega) hV.row
          rw [hD] at HC2
          clear hC hD
          obtain ⟨z0, z1, z2⟩ := boxed28 hzb3
          go_upto_region 21 with (first | (go_at_call_of 20 (Value.slice (some ⟨bw, 0, none⟩) L n); refine (HC2 _ (hO3.want.ext hE6)).mono ?_; rintro e w7 ⟨rfl, hE7⟩; have z0 := (boxed28 ((hE6.trans hE7).keeps hzb3)).1; have z1 := (boxed28 ((hE6.trans hE7).keeps hzb3)).2.1; have z2 := (boxed28 ((hE6.trans hE7).keeps hzb3)).2.2) | (go_at_call 20; refine (HC _ (hE0.succs' hO3.fr)).mono ?_; rintro e w6 ⟨rfl, hE6⟩; have z0 := (boxed28 (hE6.keeps hzb3)).1; have z1 := (boxed28 (hE6.keeps hzb3)).2.1; have z2 := (boxed28 (hE6.keeps hzb3)).2.2))
          have hO4 := hO3.ext (hE6.trans hE7)
          have hzb4 := (hE6.trans hE7).keeps hzb3
          have hdb4 := (hE6.trans hE7).keeps hdb3
          clear hE6 hE7 hO3 hzb3 hdb3 HC HC2 z0 z1 z2
          obtain ⟨z0, z1, z2⟩ := boxed28 hzb4
          obtain ⟨xs, hown, hxs⟩ := hO4.want.own (by omega) (by unfold maxLen; omega)
          have hxl := hown.1
          have hEa : Ext w7 (w7.alloc (box28 (Z t))) := (Ext.refl w7).alloc _
          have hO5 := hO4.ext hEa
          have hdb5 := hEa.keeps hdb4
          have hown1 := hown.alloc (box28 (Z t))
          have hnews := news28 w7 (Z t)
          have hone := enc3_one (Z t)
          have hLn : L + 1 ≤ n := by omega
          clear hown hO4 hdb4
          go_wp2_with (at_builtin; refine wpList_append_fits _ rfl (.tmp 97) (.tmp 99) 22 rfl 0 28 i0 3 Try.underlying22 hi hs bw L n xs rfl hown1 ⟨w7.heap.size, 0, none⟩ 1 1 (enc3 (Z t)) rfl rfl hnews hone hLn ?_)
          intro w8 hown8 hgr8
          have hWb : BufW w8 bw n (L + 1) (insF F (Z t) L) := BufW.append hown8 hxl hxs
          have hFr8 : Fr W0 w8 bw bf := hO5.fr.grown hgr8 (Or.inl rfl)
          have hFb : BufW w8 bf n L (fun j => subF (F j) x) := hO5.far.block (hgr8.block bf hO5.far.lt (fun e => by injection e with e; exact absurd e (Nat.ne_of_gt hE0.lf)))
          have hdb8 : w8.heap[w1.heap.size]? = some (box28 d) := (hgr8.block _ (Array.getElem?_eq_some_iff.1 hdb5).1 (fun e => by injection e with e; have := hE0.wlt; omega)).trans hdb5
          clear hown8 hgr8 hown1 hnews hone hO5 hdb5 hEa hzb4 z0 z1 z2 hxs hxl
          obtain ⟨z0, z1, z2⟩ := boxed28 hdb8
          obtain ⟨xs2, hown, hxs⟩ := hFb.own (by omega) (by unfold maxLen; omega)
          have hxl := hown.1
          have hEa : Ext w8 (w8.alloc (box28 d)) := (Ext.refl w8).alloc _
          have hWb1 := hWb.ext hEa
          have hFr1 := hFr8.ext hEa
          have hown1 := hown.alloc (box28 d)
          have hnews := news28 w8 d
          have hone := enc3_one d
          clear hown
          go_wp2_with (at_builtin; refine wpList_append_fits _ rfl (.tmp 101) (.tmp 103) 22 rfl 0 28 i0 3 Try.underlying22 hi hs bf L n xs2 rfl hown1 ⟨w8.heap.size, 0, none⟩ 1 1 (enc3 d) rfl rfl hnews hone hLn ?_)
          intro w9 hown9 hgr9
          have hFb9 : BufW w9 bf n (L + 1) (fun j => subF (insF F (Z t) L j) x) := (BufW.append hown9 hxl hxs).congr fun j hj => by
            unfold insF
            by_cases h1 : j < L
            · rw [if_pos h1, if_pos h1]
            · rw [if_neg h1, if_neg h1, if_pos (by omega), if_pos (by omega), HD.out]
          have hFr9 : Fr W0 w9 bw bf := hFr1.grown hgr9 (Or.inr rfl)
          have hWb9 : BufW w9 bw n (L + 1) (insF F (Z t) L) := hWb1.block (hgr9.block bw hWb1.lt (fun e => by injection e with e; exact absurd e (Nat.ne_of_lt hE0.lf)))
          have hO9 : OS W0 w9 bw bf n (L + 1) (insF F (Z t) L) x := ⟨hFr9, hWb9, hFb9⟩
          clear hown9 hgr9 hown1 hnews hone hWb1 hFr1 hFr8 hFb hdb8 hEa z0 z1 z2 hxs hxl hFr9 hWb9 hFb9 hWb
          go_wp2
          go_loopw [22] (fun v22 wr => ∃ u : Nat, u ≤ L ∧ v22 = .int .i64 u ∧ OS W0 wr bw bf n (L + 1) (insF F (Z t) u) x ∧ Hid (∀ j, u ≤ j → j < L → Ring.before x (Z t) (F j))) (fun v22 _ => (intOf v22).toNat)
          case atStart => exact ⟨L, Nat.le_refl _, by go_num, hO9, fun j h1 h2 => by omega⟩
          case round =>
            obtain ⟨u, hu, rfl, hOi, hhi⟩ := hrel
            clear hO9
            by_cases hu0 : u = 0
            · subst hu0
              go_wp2
              refine wp_region_quiet_grown follows (by kernel_rfl) ?_
              repeat (go_big_quiet_step (fail))
              refine wpQuiet_nil ?_
              intro _ hw'
              obtain ⟨⟨nq, osq⟩, hw''⟩ := hw'
              subst hw''
              go_wp2
              go_roundw
              case rel => exact ⟨t + 1, L + 1, insF F (Z t) 0, by omega, by go_num, rfl, rfl, hOi.ext ⟨_, _, rfl⟩, HW.out.add hbt.out hns.out (Nat.zero_le _) hhi.out (fun j hj => by omega)⟩
              case measure => simp [intOf]; omega
            · have hu1 : 1 ≤ u := by omega
              have hui : (0 : Int) < (u : Int) := by omega
              have huj : 0 < u := by omega
              obtain ⟨fa, hfa⟩ : ∃ fa, fa = subF (F (u - 1)) x := ⟨_, rfl⟩
              have hIa : insF F (Z t) u (u - 1) = F (u - 1) := by unfold insF; rw [if_pos (by omega)]
              have hIu : insF F (Z t) u u = Z t := by unfold insF; rw [if_neg (by omega), if_pos rfl]
              have fa0 : ∀ m os, (grow (wr.drewN m) os).cell? ⟨bf, (u - 1) * 3, none⟩ = some (.int .u64 fa.1) := fun m os => by rw [hfa, ← hIa]; exact ((hOi.ext (W' := grow (wr.drewN m) os) ⟨m, os, rfl⟩).far.cell (i := u - 1) (by omega)).1
              have fa1 : ∀ m os, (grow (wr.drewN m) os).cell? ⟨bf, (u - 1) * 3 + 1, none⟩ = some (.int .u64 fa.2.1) := fun m os => by rw [hfa, ← hIa]; exact ((hOi.ext (W' := grow (wr.drewN m) os) ⟨m, os, rfl⟩).far.cell (i := u - 1) (by omega)).2.1
              have fa2 : ∀ m os, (grow (wr.drewN m) os).cell? ⟨bf, (u - 1) * 3 + 2, none⟩ = some (.int .u64 fa.2.2) := fun m os => by rw [hfa, ← hIa]; exact ((hOi.ext (W' := grow (wr.drewN m) os) ⟨m, os, rfl⟩).far.cell (i := u - 1) (by omega)).2.2
              have fu0 : ∀ m os, (grow (wr.drewN m) os).cell? ⟨bf, u * 3, none⟩ = some (.int .u64 d.1) := fun m os => by rw [HD.out, ← hIu]; exact ((hOi.ext (W' := grow (wr.drewN m) os) ⟨m, os, rfl⟩).far.cell (i := u) (by omega)).1
              have fu1 : ∀ m os, (grow (wr.drewN m) os).cell? ⟨bf, u * 3 + 1, none⟩ = some (.int .u64 d.2.1) := fun m os => by rw [HD.out, ← hIu]; exact ((hOi.ext (W' := grow (wr.drewN m) os) ⟨m, os, rfl⟩).far.cell (i := u) (by omega)).2.1
              have fu2 : ∀ m os, (grow (wr.drewN m) os).cell? ⟨bf, u * 3 + 2, none⟩ = some (.int .u64 d.2.2) := fun m os => by rw [HD.out, ← hIu]; exact ((hOi.ext (W' := grow (wr.drewN m) os) ⟨m, os, rfl⟩).far.cell (i := u) (by omega)).2.2
              have HFA : Hid _ := hfa
              have HIA : Hid _ := hIa
              have HIU : Hid _ := hIu
              clear hfa hIa hIu
              by_cases hc : 0 < cmp3F fa d
              · go_wp2
                refine wp_region_quiet_grown follows (by kernel_rfl) ?_
                repeat (go_big_quiet_step ((go_at_call 19; refine Ext.grown (cmp3_any fa d _))))
                refine wpQuiet_nil ?_
                intro _ hw'
                obtain ⟨⟨nq, osq⟩, hw''⟩ := hw'
                subst hw''
                have hOq := hOi.ext (W' := grow (wr.drewN nq) osq) ⟨nq, osq, rfl⟩
                clear fa0 fa1 fa2 fu0 fu1 fu2 hOi
                generalize grow (wr.drewN nq) osq = Y at hOq ⊢
                obtain ⟨fw, hfw⟩ : ∃ fw, fw = F (u - 1) := ⟨_, rfl⟩
                have hwa := hOq.want.cell (i := u - 1) (by omega)
                have hfa := hOq.far.cell (i := u - 1) (by omega)
                rw [HIA.out, ← hfw] at hwa
                try dsimp only at hfa
                rw [HIA.out, ← HFA.out] at hfa
                have HFW : Hid _ := hfw
                clear hfw
                obtain ⟨p0, p1, p2⟩ := hwa
                obtain ⟨q0, q1, q2⟩ := hfa
                have hYb := hOq.far.lt
                have hYw := hOq.want.lt
                go_upto_region 28 with fail
                have hEy : Ext Y ((Y.alloc (box28 fw)).alloc (box28 fa)) := ((Ext.refl Y).alloc _).alloc _
                obtain ⟨hpb, hqb⟩ := heap2 Y (box28 fw) (box28 fa)
                change Code.wp _ _ _ _ ((Y.alloc (box28 fw)).alloc (box28 fa))
                have hO1 := hOq.ext hEy
                have hYs : W0.heap.size ≤ Y.heap.size := hOq.fr.size
                clear p0 p1 p2 q0 q1 q2 hOq
                generalize (Y.alloc (box28 fw)).alloc (box28 fa) = Y1 at hEy hpb hqb hO1 ⊢
                have hwl := hE0.wlt
                have hfl := hE0.flt
                have hwf := hE0.lf
                have hWY : Hid (W0.heap.size ≤ Y.heap.size ∧ bw < W0.heap.size ∧ bf < W0.heap.size ∧ bw < bf) := ⟨hYs, hwl, hfl, hwf⟩
                clear hYs hwl hfl hwf hYb hYw hEy
                have hwu := hO1.want.cell (i := u) (by omega)
                rw [HIU.out] at hwu
                obtain ⟨p0, p1, p2⟩ := hwu
                obtain ⟨q0, q1, q2⟩ := hO1.want.cell (i := u - 1) (by omega)
                have hfz := hO1.want.frozen
                have hbl := hO1.want.lt
                go_upto_region 29 with fail
                change Code.wp _ _ _ _ (set3 Y1 bw (u - 1) (Z t))
                have hW2 := hO1.want.set (u - 1) (by omega) (Z t)
                have hF2 : BufW (set3 Y1 bw (u - 1) (Z t)) bf n (L + 1) _ := hO1.far.block (set3_other (Nat.ne_of_lt hWY.out.2.2.2))
                have hR2 : Fr W0 (set3 Y1 bw (u - 1) (Z t)) bw bf := hO1.fr.set3 (Or.inl rfl)
                have hpb2 := (set3_other (w := Y1) (b := bw) (k := u - 1) (x := Z t) (b' := Y.heap.size) (by have := hWY.out; omega)).trans hpb
                have hqb2 := (set3_other (w := Y1) (b := bw) (k := u - 1) (x := Z t) (b' := Y.heap.size + 1) (by have := hWY.out; omega)).trans hqb
                clear p0 p1 p2 q0 q1 q2 hfz hbl hO1 hpb hqb
                generalize set3 Y1 bw (u - 1) (Z t) = Y2 at hW2 hF2 hR2 hpb2 hqb2 ⊢
                have hwu := hF2.cell (i := u) (by omega)
                try dsimp only at hwu
                rw [HIU.out, ← HD.out] at hwu
                obtain ⟨p0, p1, p2⟩ := hwu
                obtain ⟨q0, q1, q2⟩ := hF2.cell (i := u - 1) (by omega)
                have hfz := hF2.frozen
                have hbl := hF2.lt
                go_upto_region 30 with fail
                change Code.wp _ _ _ _ (set3 Y2 bf (u - 1) d)
                have hF3 := hF2.set (u - 1) (by omega) d
                have hW3 : BufW (set3 Y2 bf (u - 1) d) bw n (L + 1) _ := hW2.block (set3_other (Nat.ne_of_gt hWY.out.2.2.2))
                have hR3 : Fr W0 (set3 Y2 bf (u - 1) d) bw bf := hR2.set3 (Or.inr rfl)
                have hpb3 := (set3_other (w := Y2) (b := bf) (k := u - 1) (x := d) (b' := Y.heap.size) (by have := hWY.out; omega)).trans hpb2
                have hqb3 := (set3_other (w := Y2) (b := bf) (k := u - 1) (x := d) (b' := Y.heap.size + 1) (by have := hWY.out; omega)).trans hqb2
                clear p0 p1 p2 q0 q1 q2 hfz hbl hW2 hF2 hR2 hpb2 hqb2
                generalize set3 Y2 bf (u - 1) d = Y3 at hW3 hF3 hR3 hpb3 hqb3 ⊢
                obtain ⟨p0, p1, p2⟩ := boxed28 hpb3
                obtain ⟨q0, q1, q2⟩ := hW3.cell (i := u) (by omega)
                have hfz := hW3.frozen
                have hbl := hW3.lt
                go_upto_region 31 with fail
                change Code.wp _ _ _ _ (set3 Y3 bw u fw)
                have hW4 := hW3.set u (by omega) fw
                have hF4 : BufW (set3 Y3 bw u fw) bf n (L + 1) _ := hF3.block (set3_other (Nat.ne_of_lt hWY.out.2.2.2))
                have hR4 : Fr W0 (set3 Y3 bw u fw) bw bf := hR3.set3 (Or.inl rfl)
                have hqb4 := (set3_other (w := Y3) (b := bw) (k := u) (x := fw) (b' := Y.heap.size + 1) (by have := hWY.out; omega)).trans hqb3
                clear p0 p1 p2 q0 q1 q2 hfz hbl hW3 hF3 hR3 hpb3 hqb3
                generalize set3 Y3 bw u fw = Y4 at hW4 hF4 hR4 hqb4 ⊢
                obtain ⟨p0, p1, p2⟩ := boxed28 hqb4
                obtain ⟨q0, q1, q2⟩ := hF4.cell (i := u) (by omega)
                have hfz := hF4.frozen
                have hbl := hF4.lt
                go_upto_region 25 with fail
                change Code.wp _ _ _ _ (set3 Y4 bf u fa)
                have hF5 := hF4.set u (by omega) fa
                have hW5 : BufW (set3 Y4 bf u fa) bw n (L + 1) _ := hW4.block (set3_other (Nat.ne_of_gt hWY.out.2.2.2))
                have hR5 : Fr W0 (set3 Y4 bf u fa) bw bf := hR4.set3 (Or.inr rfl)
                clear p0 p1 p2 q0 q1 q2 hfz hbl hW4 hF4 hR4 hqb4
                generalize set3 Y4 bf u fa = Y5 at hW5 hF5 hR5 ⊢
                have HW5 : Hid _ := hW5
                have HF5 : Hid _ := hF5
                clear hW5 hF5
                go_wp2
                go_roundw
                case rel =>
                  refine ⟨u - 1, by omega, by first | go_num | (congr 1; omega), ⟨hR5, BufW.congr HW5.out (fun i hi => ?_), BufW.congr HF5.out (fun i hi => ?_)⟩, fun j h1 h2 => ?_⟩
                  · exact ins_swap F (Z t) fw HFW.out hu1 i
                  · exact ins_swap_far F (Z t) x fw fa d HFW.out HFA.out HD.out hu1 i
                  · by_cases hj : j = u - 1
                    · subst hj
                      obtain ⟨hf, hfx⟩ := HW.out.fit hx hy hZ (by omega) (j := u - 1) (by omega)
                      exact (far_gt hx hf hFz hfx hzx.out).1 (by rw [← HFA.out, ← HD.out]; exact hc)
                    · exact hhi.out j (by omega) h2
                case measure => simp [intOf]; omega
              · go_wp2
                refine wp_region_quiet_grown follows (by kernel_rfl) ?_
                repeat (go_big_quiet_step ((go_at_call 19; refine Ext.grown (cmp3_any fa d _))))
                refine wpQuiet_nil ?_
                intro _ hw'
                obtain ⟨⟨nq, osq⟩, hw''⟩ := hw'
                subst hw''
                go_wp2
                go_roundw
                case rel =>
                  exact ⟨t + 1, L + 1, insF F (Z t) u, by omega, by go_num, rfl, rfl, hOi.ext ⟨_, _, rfl⟩, HW.out.add hbt.out hns.out hu hhi.out (HW.out.lo hx hy hZ (by omega) hFz hzx.out hno.out hu (Or.inr (by rw [← HFA.out, ← HD.out]; omega)))⟩
                case measure => simp [intOf]; omega
        | false =>
          have hne : Hid (subF y x ≠ (0, 0, 0)) := fun e => by
            have := HWH.out
            rw [HBD.out, (eq3_iff _ _).2 e] at this
            cases this
          by_cases hcm : cmp3F d bd < 0
          · have hbt : Hid (Ring.before x (Z t) y) := by
              refine (between_sub hx hy hFz).2 ⟨hd0.out, Or.inr ?_⟩
              rw [← HBD.out, ← HD.out]
              exact (lt3_cmp d bd).2 hcm
            go_upto_region 20 with ((go_at_call 19; refine (cmp3_any d bd _).mono ?_; rintro e w5 ⟨rfl, hE5⟩))
            clear d0 d1 d2 c0 c1 c2 hA
            have hO3 := hO2.ext hE5
            have hzb3 := hE5.keeps hzb2
            have hdb3 := hE5.keeps hdb
            clear hO2 hzb2 hdb hE5
            rcases Bool.eq_false_or_eq_true (containsB fs m (Z t)) with hC | hC
            · have HC := fun V hV => holds_any so m mc fs (Z t) V (by omega) hV
              rw [hC] at HC
              obtain ⟨z0, z1, z2⟩ := boxed28 hzb3
              go_wp2_with ((go_at_call 20; refine (HC _ (hE0.succs' hO3.fr)).mono ?_; rintro e w6 ⟨rfl, hE6⟩))
              go_roundw
              case rel =>
                refine ⟨t + 1, L, F, by omega, by go_num, rfl, rfl, hO3.ext hE6, HW.out.skip fun hsel => ?_⟩
                obtain ⟨j, hj, e⟩ := (containsB_iff fs m (Z t)).1 hC
                exact absurd e (hsel.2.2 j hj)
              case measure => simp [intOf]; omega
            have hns : Hid (∀ j, j < m → fs j ≠ Z t) := fun j hj e => by
              rw [(containsB_iff fs m (Z t)).2 ⟨j, hj, e⟩] at hC
              cases hC
            rcases Bool.eq_false_or_eq_true (containsB F L (Z t)) with hD | hD
            · have HC := fun V hV => holds_any so m mc fs (Z t) V (by omega) hV
              rw [hC] at HC
              have HC2 := fun V (hV : BufW V bw n L F) => holds_row bw 0 L n F (Z t) V (by omega) hV.row
              rw [hD] at HC2
              obtain ⟨z0, z1, z2⟩ := boxed28 hzb3
              go_wp2_with (first | (go_at_call_of 20 (Value.slice (some ⟨bw, 0, none⟩) L n); refine (HC2 _ (hO3.want.ext hE6)).mono ?_; rintro e w7 ⟨rfl, hE7⟩) | (go_at_call 20; refine (HC _ (hE0.succs' hO3.fr)).mono ?_; rintro e w6 ⟨rfl, hE6⟩; have z0 := (boxed28 (hE6.keeps hzb3)).1; have z1 := (boxed28 (hE6.keeps hzb3)).2.1; have z2 := (boxed28 (hE6.keeps hzb3)).2.2))
              go_roundw
              case rel => exact ⟨t + 1, L, F, by omega, by go_num, rfl, rfl, (hO3.ext hE6).ext hE7, HW.out.skip fun _ => (containsB_iff F L (Z t)).1 hD⟩
              case measure => simp [intOf]; omega
            have hno : Hid (∀ j, j < L → F j ≠ Z t) := fun j hj e => by
              rw [(containsB_iff F L (Z t)).2 ⟨j, hj, e⟩] at hD
              cases hD
            have HC := fun V hV => holds_any so m mc fs (Z t) V (by omega) hV
            rw [hC] at HC
            have HC2 := fun V (hV : BufW V bw n L F) => holds_row bw 0 L n F (Z t) V (by omega) hV.row
            rw [hD] at HC2
            clear hC hD
            obtain ⟨z0, z1, z2⟩ := boxed28 hzb3
            go_upto_region 21 with (first | (go_at_call_of 20 (Value.slice (some ⟨bw, 0, none⟩) L n); refine (HC2 _ (hO3.want.ext hE6)).mono ?_; rintro e w7 ⟨rfl, hE7⟩; have z0 := (boxed28 ((hE6.trans hE7).keeps hzb3)).1; have z1 := (boxed28 ((hE6.trans hE7).keeps hzb3)).2.1; have z2 := (boxed28 ((hE6.trans hE7).keeps hzb3)).2.2) | (go_at_call 20; refine (HC _ (hE0.succs' hO3.fr)).mono ?_; rintro e w6 ⟨rfl, hE6⟩; have z0 := (boxed28 (hE6.keeps hzb3)).1; have z1 := (boxed28 (hE6.keeps hzb3)).2.1; have z2 := (boxed28 (hE6.keeps hzb3)).2.2))
            have hO4 := hO3.ext (hE6.trans hE7)
            have hzb4 := (hE6.trans hE7).keeps hzb3
            have hdb4 := (hE6.trans hE7).keeps hdb3
            clear hE6 hE7 hO3 hzb3 hdb3 HC HC2 z0 z1 z2
            obtain ⟨z0, z1, z2⟩ := boxed28 hzb4
            obtain ⟨xs, hown, hxs⟩ := hO4.want.own (by omega) (by unfold maxLen; omega)
            have hxl := hown.1
            have hEa : Ext w7 (w7.alloc (box28 (Z t))) := (Ext.refl w7).alloc _
            have hO5 := hO4.ext hEa
            have hdb5 := hEa.keeps hdb4
            have hown1 := hown.alloc (box28 (Z t))
            have hnews := news28 w7 (Z t)
            have hone := enc3_one (Z t)
            have hLn : L + 1 ≤ n := by omega
            clear hown hO4 hdb4
            go_wp2_with (at_builtin; refine wpList_append_fits _ rfl (.tmp 97) (.tmp 99) 22 rfl 0 28 i0 3 Try.underlying22 hi hs bw L n xs rfl hown1 ⟨w7.heap.size, 0, none⟩ 1 1 (enc3 (Z t)) rfl rfl hnews hone hLn ?_)
            intro w8 hown8 hgr8
            have hWb : BufW w8 bw n (L + 1) (insF F (Z t) L) := BufW.append hown8 hxl hxs
            have hFr8 : Fr W0 w8 bw bf := hO5.fr.grown hgr8 (Or.inl rfl)
            have hFb : BufW w8 bf n L (fun j => subF (F j) x) := hO5.far.block (hgr8.block bf hO5.far.lt (fun e => by injection e with e; exact absurd e (Nat.ne_of_gt hE0.lf)))
            have hdb8 : w8.heap[w1.heap.size]? = some (box28 d) := (hgr8.block _ (Array.getElem?_eq_some_iff.1 hdb5).1 (fun e => by injection e with e; have := hE0.wlt; omega)).trans hdb5
            clear hown8 hgr8 hown1 hnews hone hO5 hdb5 hEa hzb4 z0 z1 z2 hxs hxl
            obtain ⟨z0, z1, z2⟩ := boxed28 hdb8
            obtain ⟨xs2, hown, hxs⟩ := hFb.own (by omega) (by unfold maxLen; omega)
            have hxl := hown.1
            have hEa : Ext w8 (w8.alloc (box28 d)) := (Ext.refl w8).alloc _
            have hWb1 := hWb.ext hEa
            have hFr1 := hFr8.ext hEa
            have hown1 := hown.alloc (box28 d)
            have hnews := news28 w8 d
            have hone := enc3_one d
            clear hown
            go_wp2_with (at_builtin; refine wpList_append_fits _ rfl (.tmp 101) (.tmp 103) 22 rfl 0 28 i0 3 Try.underlying22 hi hs bf L n xs2 rfl hown1 ⟨w8.heap.size, 0, none⟩ 1 1 (enc3 d) rfl rfl hnews hone hLn ?_)
            intro w9 hown9 hgr9
            have hFb9 : BufW w9 bf n (L + 1) (fun j => subF (insF F (Z t) L j) x) := (BufW.append hown9 hxl hxs).congr fun j hj => by
              unfold insF
              by_cases h1 : j < L
              · rw [if_pos h1, if_pos h1]
              · rw [if_neg h1, if_neg h1, if_pos (by omega), if_pos (by omega), HD.out]
            have hFr9 : Fr W0 w9 bw bf := hFr1.grown hgr9 (Or.inr rfl)
            have hWb9 : BufW w9 bw n (L + 1) (insF F (Z t) L) := hWb1.block (hgr9.block bw hWb1.lt (fun e => by injection e with e; exact absurd e (Nat.ne_of_lt hE0.lf)))
            have hO9 : OS W0 w9 bw bf n (L + 1) (insF F (Z t) L) x := ⟨hFr9, hWb9, hFb9⟩
            clear hown9 hgr9 hown1 hnews hone hWb1 hFr1 hFr8 hFb hdb8 hEa z0 z1 z2 hxs hxl hFr9 hWb9 hFb9 hWb
            go_wp2
            go_loopw [22] (fun v22 wr => ∃ u : Nat, u ≤ L ∧ v22 = .int .i64 u ∧ OS W0 wr bw bf n (L + 1) (insF F (Z t) u) x ∧ Hid (∀ j, u ≤ j → j < L → Ring.before x (Z t) (F j))) (fun v22 _ => (intOf v22).toNat)
            case atStart => exact ⟨L, Nat.le_refl _, by go_num, hO9, fun j h1 h2 => by omega⟩
            case round =>
              obtain ⟨u, hu, rfl, hOi, hhi⟩ := hrel
              clear hO9
              by_cases hu0 : u = 0
              · subst hu0
                go_wp2
                refine wp_region_quiet_grown follows (by kernel_rfl) ?_
                repeat (go_big_quiet_step (fail))
                refine wpQuiet_nil ?_
                intro _ hw'
                obtain ⟨⟨nq, osq⟩, hw''⟩ := hw'
                subst hw''
                go_wp2
                go_roundw
                case rel => exact ⟨t + 1, L + 1, insF F (Z t) 0, by omega, by go_num, rfl, rfl, hOi.ext ⟨_, _, rfl⟩, HW.out.add hbt.out hns.out (Nat.zero_le _) hhi.out (fun j hj => by omega)⟩
                case measure => simp [intOf]; omega
              · have hu1 : 1 ≤ u := by omega
                have hui : (0 : Int) < (u : Int) := by omega
                have huj : 0 < u := by omega
                obtain ⟨fa, hfa⟩ : ∃ fa, fa = subF (F (u - 1)) x := ⟨_, rfl⟩
                have hIa : insF F (Z t) u (u - 1) = F (u - 1) := by unfold insF; rw [if_pos (by omega)]
                have hIu : insF F (Z t) u u = Z t := by unfold insF; rw [if_neg (by omega), if_pos rfl]
                have fa0 : ∀ m os, (grow (wr.drewN m) os).cell? ⟨bf, (u - 1) * 3, none⟩ = some (.int .u64 fa.1) := fun m os => by rw [hfa, ← hIa]; exact ((hOi.ext (W' := grow (wr.drewN m) os) ⟨m, os, rfl⟩).far.cell (i := u - 1) (by omega)).1
                have fa1 : ∀ m os, (grow (wr.drewN m) os).cell? ⟨bf, (u - 1) * 3 + 1, none⟩ = some (.int .u64 fa.2.1) := fun m os => by rw [hfa, ← hIa]; exact ((hOi.ext (W' := grow (wr.drewN m) os) ⟨m, os, rfl⟩).far.cell (i := u - 1) (by omega)).2.1
                have fa2 : ∀ m os, (grow (wr.drewN m) os).cell? ⟨bf, (u - 1) * 3 + 2, none⟩ = some (.int .u64 fa.2.2) := fun m os => by rw [hfa, ← hIa]; exact ((hOi.ext (W' := grow (wr.drewN m) os) ⟨m, os, rfl⟩).far.cell (i := u - 1) (by omega)).2.2
                have fu0 : ∀ m os, (grow (wr.drewN m) os).cell? ⟨bf, u * 3, none⟩ = some (.int .u64 d.1) := fun m os => by rw [HD.out, ← hIu]; exact ((hOi.ext (W' := grow (wr.drewN m) os) ⟨m, os, rfl⟩).far.cell (i := u) (by omega)).1
                have fu1 : ∀ m os, (grow (wr.drewN m) os).cell? ⟨bf, u * 3 + 1, none⟩ = some (.int .u64 d.2.1) := fun m os => by rw [HD.out, ← hIu]; exact ((hOi.ext (W' := grow (wr.drewN m) os) ⟨m, os, rfl⟩).far.cell (i := u) (by omega)).2.1
                have fu2 : ∀ m os, (grow (wr.drewN m) os).cell? ⟨bf, u * 3 + 2, none⟩ = some (.int .u64 d.2.2) := fun m os => by rw [HD.out, ← hIu]; exact ((hOi.ext (W' := grow (wr.drewN m) os) ⟨m, os, rfl⟩).far.cell (i := u) (by omega)).2.2
                have HFA : Hid _ := hfa
                have HIA : Hid _ := hIa
                have HIU : Hid _ := hIu
                clear hfa hIa hIu
                by_cases hc : 0 < cmp3F fa d
                · go_wp2
                  refine wp_region_quiet_grown follows (by kernel_rfl) ?_
                  repeat (go_big_quiet_step ((go_at_call 19; refine Ext.grown (cmp3_any fa d _))))
                  refine wpQuiet_nil ?_
                  intro _ hw'
                  obtain ⟨⟨nq, osq⟩, hw''⟩ := hw'
                  subst hw''
                  have hOq := hOi.ext (W' := grow (wr.drewN nq) osq) ⟨nq, osq, rfl⟩
                  clear fa0 fa1 fa2 fu0 fu1 fu2 hOi
                  generalize grow (wr.drewN nq) osq = Y at hOq ⊢
                  obtain ⟨fw, hfw⟩ : ∃ fw, fw = F (u - 1) := ⟨_, rfl⟩
                  have hwa := hOq.want.cell (i := u - 1) (by omega)
                  have hfa := hOq.far.cell (i := u - 1) (by omega)
                  rw [HIA.out, ← hfw] at hwa
                  try dsimp only at hfa
                  rw [HIA.out, ← HFA.out] at hfa
                  have HFW : Hid _ := hfw
                  clear hfw
                  obtain ⟨p0, p1, p2⟩ := hwa
                  obtain ⟨q0, q1, q2⟩ := hfa
                  have hYb := hOq.far.lt
                  have hYw := hOq.want.lt
                  go_upto_region 28 with fail
                  have hEy : Ext Y ((Y.alloc (box28 fw)).alloc (box28 fa)) := ((Ext.refl Y).alloc _).alloc _
                  obtain ⟨hpb, hqb⟩ := heap2 Y (box28 fw) (box28 fa)
                  change Code.wp _ _ _ _ ((Y.alloc (box28 fw)).alloc (box28 fa))
                  have hO1 := hOq.ext hEy
                  have hYs : W0.heap.size ≤ Y.heap.size := hOq.fr.size
                  clear p0 p1 p2 q0 q1 q2 hOq
                  generalize (Y.alloc (box28 fw)).alloc (box28 fa) = Y1 at hEy hpb hqb hO1 ⊢
                  have hwl := hE0.wlt
                  have hfl := hE0.flt
                  have hwf := hE0.lf
                  have hWY : Hid (W0.heap.size ≤ Y.heap.size ∧ bw < W0.heap.size ∧ bf < W0.heap.size ∧ bw < bf) := ⟨hYs, hwl, hfl, hwf⟩
                  clear hYs hwl hfl hwf hYb hYw hEy
                  have hwu := hO1.want.cell (i := u) (by omega)
                  rw [HIU.out] at hwu
                  obtain ⟨p0, p1, p2⟩ := hwu
                  obtain ⟨q0, q1, q2⟩ := hO1.want.cell (i := u - 1) (by omega)
                  have hfz := hO1.want.frozen
                  have hbl := hO1.want.lt
                  go_upto_region 29 with fail
                  change Code.wp _ _ _ _ (set3 Y1 bw (u - 1) (Z t))
                  have hW2 := hO1.want.set (u - 1) (by omega) (Z t)
                  have hF2 : BufW (set3 Y1 bw (u - 1) (Z t)) bf n (L + 1) _ := hO1.far.block (set3_other (Nat.ne_of_lt hWY.out.2.2.2))
                  have hR2 : Fr W0 (set3 Y1 bw (u - 1) (Z t)) bw bf := hO1.fr.set3 (Or.inl rfl)
                  have hpb2 := (set3_other (w := Y1) (b := bw) (k := u - 1) (x := Z t) (b' := Y.heap.size) (by have := hWY.out; omega)).trans hpb
                  have hqb2 := (set3_other (w := Y1) (b := bw) (k := u - 1) (x := Z t) (b' := Y.heap.size + 1) (by have := hWY.out; omega)).trans hqb
                  clear p0 p1 p2 q0 q1 q2 hfz hbl hO1 hpb hqb
                  generalize set3 Y1 bw (u - 1) (Z t) = Y2 at hW2 hF2 hR2 hpb2 hqb2 ⊢
                  have hwu := hF2.cell (i := u) (by omega)
                  try dsimp only at hwu
                  rw [HIU.out, ← HD.out] at hwu
                  obtain ⟨p0, p1, p2⟩ := hwu
                  obtain ⟨q0, q1, q2⟩ := hF2.cell (i := u - 1) (by omega)
                  have hfz := hF2.frozen
                  have hbl := hF2.lt
                  go_upto_region 30 with fail
                  change Code.wp _ _ _ _ (set3 Y2 bf (u - 1) d)
                  have hF3 := hF2.set (u - 1) (by omega) d
                  have hW3 : BufW (set3 Y2 bf (u - 1) d) bw n (L + 1) _ := hW2.block (set3_other (Nat.ne_of_gt hWY.out.2.2.2))
                  have hR3 : Fr W0 (set3 Y2 bf (u - 1) d) bw bf := hR2.set3 (Or.inr rfl)
                  have hpb3 := (set3_other (w := Y2) (b := bf) (k := u - 1) (x := d) (b' := Y.heap.size) (by have := hWY.out; omega)).trans hpb2
                  have hqb3 := (set3_other (w := Y2) (b := bf) (k := u - 1) (x := d) (b' := Y.heap.size + 1) (by have := hWY.out; omega)).trans hqb2
                  clear p0 p1 p2 q0 q1 q2 hfz hbl hW2 hF2 hR2 hpb2 hqb2
                  generalize set3 Y2 bf (u - 1) d = Y3 at hW3 hF3 hR3 hpb3 hqb3 ⊢
                  obtain ⟨p0, p1, p2⟩ := boxed28 hpb3
                  obtain ⟨q0, q1, q2⟩ := hW3.cell (i := u) (by omega)
                  have hfz := hW3.frozen
                  have hbl := hW3.lt
                  go_upto_region 31 with fail
                  change Code.wp _ _ _ _ (set3 Y3 bw u fw)
                  have hW4 := hW3.set u (by omega) fw
                  have hF4 : BufW (set3 Y3 bw u fw) bf n (L + 1) _ := hF3.block (set3_other (Nat.ne_of_lt hWY.out.2.2.2))
                  have hR4 : Fr W0 (set3 Y3 bw u fw) bw bf := hR3.set3 (Or.inl rfl)
                  have hqb4 := (set3_other (w := Y3) (b := bw) (k := u) (x := fw) (b' := Y.heap.size + 1) (by have := hWY.out; omega)).trans hqb3
                  clear p0 p1 p2 q0 q1 q2 hfz hbl hW3 hF3 hR3 hpb3 hqb3
                  generalize set3 Y3 bw u fw = Y4 at hW4 hF4 hR4 hqb4 ⊢
                  obtain ⟨p0, p1, p2⟩ := boxed28 hqb4
                  obtain ⟨q0, q1, q2⟩ := hF4.cell (i := u) (by omega)
                  have hfz := hF4.frozen
                  have hbl := hF4.lt
                  go_upto_region 25 with fail
                  change Code.wp _ _ _ _ (set3 Y4 bf u fa)
                  have hF5 := hF4.set u (by omega) fa
                  have hW5 : BufW (set3 Y4 bf u fa) bw n (L + 1) _ := hW4.block (set3_other (Nat.ne_of_gt hWY.out.2.2.2))
                  have hR5 : Fr W0 (set3 Y4 bf u fa) bw bf := hR4.set3 (Or.inr rfl)
                  clear p0 p1 p2 q0 q1 q2 hfz hbl hW4 hF4 hR4 hqb4
                  generalize set3 Y4 bf u fa = Y5 at hW5 hF5 hR5 ⊢
                  have HW5 : Hid _ := hW5
                  have HF5 : Hid _ := hF5
                  clear hW5 hF5
                  go_wp2
                  go_roundw
                  case rel =>
                    refine ⟨u - 1, by omega, by first | go_num | (congr 1; omega), ⟨hR5, BufW.congr HW5.out (fun i hi => ?_), BufW.congr HF5.out (fun i hi => ?_)⟩, fun j h1 h2 => ?_⟩
                    · exact ins_swap F (Z t) fw HFW.out hu1 i
                    · exact ins_swap_far F (Z t) x fw fa d HFW.out HFA.out HD.out hu1 i
                    · by_cases hj : j = u - 1
                      · subst hj
                        obtain ⟨hf, hfx⟩ := HW.out.fit hx hy hZ (by omega) (j := u - 1) (by omega)
                        exact (far_gt hx hf hFz hfx hzx.out).1 (by rw [← HFA.out, ← HD.out]; exact hc)
                      · exact hhi.out j (by omega) h2
                  case measure => simp [intOf]; omega
                · go_wp2
                  refine wp_region_quiet_grown follows (by kernel_rfl) ?_
                  repeat (go_big_quiet_step ((go_at_call 19; refine Ext.grown (cmp3_any fa d _))))
                  refine wpQuiet_nil ?_
                  intro _ hw'
                  obtain ⟨⟨nq, osq⟩, hw''⟩ := hw'
                  subst hw''
                  go_wp2
                  go_roundw
                  case rel =>
                    exact ⟨t + 1, L + 1, insF F (Z t) u, by omega, by go_num, rfl, rfl, hOi.ext ⟨_, _, rfl⟩, HW.out.add hbt.out hns.out hu hhi.out (HW.out.lo hx hy hZ (by omega) hFz hzx.out hno.out hu (Or.inr (by rw [← HFA.out, ← HD.out]; omega)))⟩
                  case measure => simp [intOf]; omega
          · go_wp2_with ((go_at_call 19; refine (cmp3_any d bd _).mono ?_; rintro e w5 ⟨rfl, hE5⟩))
            go_roundw
            case rel =>
              refine ⟨t + 1, L, F, by omega, by go_num, rfl, rfl, hO2.ext hE5, HW.out.skip fun hsel => ?_⟩
              have := ((between_sub hx hy hFz).1 hsel.2.1).2
              rw [← HD.out, ← HBD.out] at this
              rcases this with h | h
              · exact absurd (HBD.out.symm.trans h) hne.out
              · exact absurd ((lt3_cmp d bd).1 h) (by omega)
            case measure => simp [intOf]; omega
      · have htn' : n = t := by omega
        subst htn'
        have hp := HW.out.past
        have hgL : L = gl := by rw [HGL.out, hp]; simp
        have hgf : ∀ i, i < L → (fun i => (pastL x y fs m Z n)[i]!) i = F i := fun i hi => by
          show (pastL x y fs m Z n)[i]! = F i
          rw [hp, getElem!_pos _ i (by simpa using hi)]
          simp
        have HGF : Hid _ := hgf
        clear hp hgf HGL
        subst hgL
        go_wp2
        go_loopw [25] (fun v wq => ∃ j : Nat, j ≤ L ∧ v = .int .i64 j ∧ OS W0 wq bw bf n L F x) (fun v _ => L - (intOf v).toNat)
        case atStart => exact ⟨0, by omega, rfl, hOS⟩
        case round =>
          obtain ⟨j, hj, rfl, hOj⟩ := hrel
          clear hOS
          by_cases hlt2 : j < L
          · obtain ⟨g, rfl, hG⟩ := hE0.got' hOj.fr (by omega)
            have hG2 := hG.congr HGF.out
            have e2 := eq3_refl (F j)
            have y0 := fun m os => ((hG2.ext (w' := grow (wr.drewN m) os) ⟨m, os, rfl⟩).at0 hlt2).1
            have y1 := fun m os => ((hG2.ext (w' := grow (wr.drewN m) os) ⟨m, os, rfl⟩).at0 hlt2).2.1
            have y2 := fun m os => ((hG2.ext (w' := grow (wr.drewN m) os) ⟨m, os, rfl⟩).at0 hlt2).2.2
            have x0 := fun m os => ((hOj.ext (W' := grow (wr.drewN m) os) ⟨m, os, rfl⟩).want.cell hlt2).1
            have x1 := fun m os => ((hOj.ext (W' := grow (wr.drewN m) os) ⟨m, os, rfl⟩).want.cell hlt2).2.1
            have x2 := fun m os => ((hOj.ext (W' := grow (wr.drewN m) os) ⟨m, os, rfl⟩).want.cell hlt2).2.2
            go_wp2
            refine wp_region_quiet_grown follows (by kernel_rfl) ?_
            repeat (go_big_quiet_step ((go_at_call 11; refine Ext.grown (sameWords_any (F j) (F j) _))))
            refine wpQuiet_nil ?_
            intro _ hw'
            obtain ⟨⟨nq, osq⟩, hw''⟩ := hw'
            subst hw''
            go_wp2
            go_roundw
            case rel => exact ⟨j + 1, by omega, by go_num, hOj.ext ⟨_, _, rfl⟩⟩
            case measure => simp [intOf]; omega
          · go_wp2
            go_ret
            exact ⟨rfl, hE0.below' hOj.fr⟩
end Go.Proofs.Qxb6618031a
