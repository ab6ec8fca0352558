/- FnLabelsKeepsStringMembersExactly. -/
import Derived.Test.Qxb6618663aCopy
import Derived.Test.Qxb6618663aZz
set_option linter.unusedVariables false
namespace Go.Proofs.Qxb6618663a
open Go.RowKit Go.Sort Go.Maps

def Cpy {α : Type} (mk : α → Value) (w : World) (n : Nat) (l : List α) (v : Value) (W : World) : Prop := ∃ ao cap, v = .slice ao n cap ∧ RowO mk W ao l ∧ Kp w W
theorem one9 (x : ByteArray) : (Value.string x).oneCell' = true := rfl
theorem one2 (x : Int) : (Value.int .i64 x).oneCell' = true := rfl

set_option maxRecDepth 100000 in
set_option maxHeartbeats 4000000 in
theorem fn6_any (a1 a2 a3 a4 : Option Addr) (n1 c1 n2 c2 n3 c3 n4 c4 : Nat) (l1 l2 l3 : List ByteArray) (l4 : List Int) (w : World) (hn1 : n1 ≤ maxLen) (hn2 : n2 ≤ maxLen) (hn3 : n3 ≤ maxLen) (hn4 : n4 ≤ maxLen) (hl1 : l1.length = n1) (hl2 : l2.length = n2) (hl3 : l3.length = n3) (hl4 : l4.length = n4)
    (hR1 : RowO Value.string w a1 l1) (hR2 : RowO Value.string w a2 l2) (hR3 : RowO Value.string w a3 l3) (hR4 : RowO (Value.int .i64) w a4 l4) (hs1 : ∀ x ∈ l1, x.size ≤ maxLen) (hs2 : ∀ x ∈ l2, x.size ≤ maxLen) (hs3 : ∀ x ∈ l3, x.size ≤ maxLen)
    (hz1 : a1 = none → n1 = 0 ∧ c1 = 0) (hz2 : a2 = none → n2 = 0 ∧ c2 = 0) (hz3 : a3 = none → n3 = 0 ∧ c3 = 0) (hz4 : a4 = none → n4 = 0 ∧ c4 = 0) :
    Calls Try.prog 6 #[.slice a1 n1 c1, .slice a2 n2 c2, .slice a3 n3 c3, .slice a4 n4 c4] w fun e w' => e = .returned (.bool true) ∧ Kp w w' := by
  have hZ := zz25_any a1 a2 a3 a4 n1 c1 n2 c2 n3 c3 n4 c4 l1 l2 l3 w hn1 hn2 hn3 hn4 hl1 hl2 hl3 hR1 hR2 hR3 hs1 hs2 hs3
  have HZ : Hid (Calls Try.prog 25 #[.slice a1 n1 c1, .slice a2 n2 c2, .slice a3 n3 c3, .slice a4 n4 c4] w fun e w' => ZZPost w (n1 ≤ 1048576 ∧ n2 ≤ 1048576 ∧ n3 ≤ 1048576 ∧ n4 ≤ 1048576 ∧ Sm l1 ∧ Sm l2 ∧ Sm l3) e w') := hZ
  have HL1 : Hid _ := hl1
  have HL2 : Hid _ := hl2
  have HL3 : Hid _ := hl3
  have HL4 : Hid _ := hl4
  have HZ1 : Hid _ := hz1
  have HZ2 : Hid _ := hz2
  have HZ3 : Hid _ := hz3
  have HZ4 : Hid _ := hz4
  clear hZ hl1 hl2 hl3 hl4 hs1 hs2 hs3 hz1 hz2 hz3 hz4 hn1 hn2 hn3 hn4
  go_enter Try.func6, Try.ntmps6
  go_wp2_with fail
  refine HZ.out.mono ?_
  clear HZ
  rintro e W0 ⟨rfl, r, rfl, hr⟩
  cases r with
  | false =>
    clear hr
    go_wp2
    go_ret
    exact ⟨rfl, Kp.refl _⟩
  | true =>
    obtain ⟨m1, m2, m3, m4, s1, s2, s3⟩ := hr rfl
    have HS1 : Hid (Sm l1) := s1
    have HS2 : Hid (Sm l2) := s2
    have HS3 : Hid (Sm l3) := s3
    clear hr s1 s2 s3
    have hne := fun w a n c => run_neq_slice_nil_any (P := Try.prog) w 23 9 a n c 0 0 Try.underlying23
    have hne2 := fun w a n c => run_neq_slice_nil_any (P := Try.prog) w 47 2 a n c 0 0 Try.underlying47
    go_upto_if 35 with fail
    go_cut [0] (fun v W => Cpy Value.string W0 n1 l1 v W)
    case first =>
      cases a1 with
      | none =>
        go_wp2
        go_meet
        exact ⟨_, _, rfl, hR1, Kp.refl _⟩
      | some p =>
        have hmk := run_make23 n1 m1
        go_upto_region 5 with fail
        go_wp2_with (refine wpList_copy_row W0 9 (mk9 n1) n1 (size_madeCells _ _) rfl (.tmp 39) (.tmp 40) 23 rfl Try.underlying23 size9 p c1 l1 HL1.out hR1 one9 rfl rfl ?_)
        intro w1 hk1 hr1
        go_wp2
        go_meet
        exact ⟨_, _, rfl, hr1, hk1⟩
    case rest =>
      obtain ⟨q1, d1, rfl, hr1, hk1⟩ := hcut
      obtain ⟨W1, hWe⟩ : ∃ W1 : World, W1 = wc := ⟨_, rfl⟩
      subst hWe
      clear hR1
      have t2 := hR2.kp hk1
      clear hR2
      have hR2 := t2
      clear t2
      have t3 := hR3.kp hk1
      clear hR3
      have hR3 := t3
      clear t3
      have t4 := hR4.kp hk1
      clear hR4
      have hR4 := t4
      clear t4
      have hkw := hk1
      clear hk1
      go_upto_if 44 with fail
      go_cut [1] (fun v W => Cpy Value.string W1 n2 l2 v W)
      case first =>
        cases a2 with
        | none =>
          go_wp2
          go_meet
          exact ⟨_, _, rfl, hR2, Kp.refl _⟩
        | some p =>
          have hmk := run_make23 n2 m2
          go_upto_region 9 with fail
          go_wp2_with (refine wpList_copy_row W1 9 (mk9 n2) n2 (size_madeCells _ _) rfl (.tmp 48) (.tmp 49) 23 rfl Try.underlying23 size9 p c2 l2 HL2.out hR2 one9 rfl rfl ?_)
          intro w1 hk1 hr1
          go_wp2
          go_meet
          exact ⟨_, _, rfl, hr1, hk1⟩
      case rest =>
        obtain ⟨q2, d2, rfl, hr2, hk2⟩ := hcut
        obtain ⟨W2, hWe⟩ : ∃ W2 : World, W2 = wc := ⟨_, rfl⟩
        subst hWe
        clear hR2
        have t1 := hr1.kp hk2
        clear hr1
        have hr1 := t1
        clear t1
        have t3 := hR3.kp hk2
        clear hR3
        have hR3 := t3
        clear t3
        have t4 := hR4.kp hk2
        clear hR4
        have hR4 := t4
        clear t4
        have t0 := hkw.trans hk2
        clear hkw hk2
        have hkw := t0
        clear t0
        go_upto_if 53 with fail
        go_cut [2] (fun v W => Cpy Value.string W2 n3 l3 v W)
        case first =>
          cases a3 with
          | none =>
            go_wp2
            go_meet
            exact ⟨_, _, rfl, hR3, Kp.refl _⟩
          | some p =>
            have hmk := run_make23 n3 m3
            go_upto_region 13 with fail
            go_wp2_with (refine wpList_copy_row W2 9 (mk9 n3) n3 (size_madeCells _ _) rfl (.tmp 57) (.tmp 58) 23 rfl Try.underlying23 size9 p c3 l3 HL3.out hR3 one9 rfl rfl ?_)
            intro w1 hk1 hr1
            go_wp2
            go_meet
            exact ⟨_, _, rfl, hr1, hk1⟩
        case rest =>
          obtain ⟨q3, d3, rfl, hr3, hk3⟩ := hcut
          obtain ⟨W3, hWe⟩ : ∃ W3 : World, W3 = wc := ⟨_, rfl⟩
          subst hWe
          clear hR3
          have t1 := hr1.kp hk3
          clear hr1
          have hr1 := t1
          clear t1
          have t2 := hr2.kp hk3
          clear hr2
          have hr2 := t2
          clear t2
          have t4 := hR4.kp hk3
          clear hR4
          have hR4 := t4
          clear t4
          have t0 := hkw.trans hk3
          clear hkw hk3
          have hkw := t0
          clear t0
          go_upto_if 62 with fail
          go_cut [3] (fun v W => Cpy (Value.int .i64) W3 n4 l4 v W)
          case first =>
            cases a4 with
            | none =>
              go_wp2
              go_meet
              exact ⟨_, _, rfl, hR4, Kp.refl _⟩
            | some p =>
              have hmk := run_make47 n4 m4
              go_upto_region 17 with fail
              go_wp2_with (refine wpList_copy_row W3 2 (mk2 n4) n4 (size_madeCells _ _) rfl (.tmp 66) (.tmp 67) 47 rfl Try.underlying47 size2 p c4 l4 HL4.out hR4 one2 rfl rfl ?_)
              intro w1 hk1 hr1
              go_wp2
              go_meet
              exact ⟨_, _, rfl, hr1, hk1⟩
          case rest =>
            obtain ⟨q4, d4, rfl, hr4, hk4⟩ := hcut
            obtain ⟨W4, hWe⟩ : ∃ W4 : World, W4 = wc := ⟨_, rfl⟩
            subst hWe
            clear hR4
            have t1 := hr1.kp hk4
            clear hr1
            have hr1 := t1
            clear t1
            have t2 := hr2.kp hk4
            clear hr2
            have hr2 := t2
            clear t2
            have t3 := hr3.kp hk4
            clear hr3
            have hr3 := t3
            clear t3
            have t0 := hkw.trans hk4
            clear hkw hk4
            have hkw := t0
            clear t0
            clear hne hne2 HZ1 HZ2 HZ3 HZ4
            go_wp2_with fail
            refine (spend_any q1 n1 d1 l1 1048576 W4 m1 HL1.out hr1 (by omega) (by omega) HS1.out).mono ?_
            rintro e V ⟨hV, r1, rfl, p1, p1'⟩
            subst V
            go_wp2_with fail
            refine (spend_any q2 n2 d2 l2 r1 W4 m2 HL2.out hr2 p1 p1' HS2.out).mono ?_
            rintro e V ⟨hV, r2, rfl, p2, p2'⟩
            subst V
            go_wp2_with fail
            refine (spend_any q3 n3 d3 l3 r2 W4 m3 HL3.out hr3 p2 p2' HS3.out).mono ?_
            rintro e V ⟨hV, r3, rfl, p3, p3'⟩
            subst V
            clear p1 p1' p2 p2'
            by_cases hb0 : r3 < 0
            · go_wp2
              go_ret
              exact ⟨rfl, hkw⟩
            · by_cases hb1 : r3 / 8 < (n4 : Int)
              · go_wp2
                go_ret
                exact ⟨rfl, hkw⟩
              · have HO : Hid (Calls Try.prog 20 #[.slice q1 n1 d1, .slice q2 n2 d2, .slice q3 n3 d3, .slice q4 n4 d4] W4 fun e w' => ObjPost W4 (fun W b => ObjL W b (memF (l1.zip l2) (l3.zip l4))) e w') :=
                  labels20 q1 q2 q3 q4 n1 d1 n2 d2 n3 d3 n4 d4 l1 l2 l3 l4 W4 m1 m2 m3 m4 HL1.out HL2.out HL3.out HL4.out hr1 hr2 hr3 hr4 HS1.out HS3.out
                go_wp2_with fail
                refine HO.out.mono ?_
                clear HO hb0 hb1 p3 p3'
                rintro e W5 ⟨b0, rfl, hk5, hO⟩
                have HLb : ∀ W, Kp W5 W → Hid (Calls Try.prog 23 #[.agg #[.map (some b0)]] W fun e w' => LabPost W (wantF (l3.zip l4) (l1.zip l2)) e w') := fun W hW => by
                  have := labels_any b0 _ W (hO.kp hW) (good_mem _ _)
                  rw [want_eq] at this
                  exact this
                clear hO
                go_wp2_with fail
                have hk6 : Kp W5 (W5.alloc (.cells #[.map (some b0)] 40)) := (Kp.refl W5).alloc _
                refine (HLb _ hk6).out.mono ?_
                clear HLb
                rintro e W7 ⟨hk7, got, rfl, hLab⟩
                have hk47 : Kp W4 W7 := (hk5.trans hk6).trans hk7
                have hw7 : Kp W0 W7 := hkw.trans hk47
                have g1 := hr1.kp hk47
                have g2 := hr2.kp hk47
                have g3 := hr3.kp hk47
                have g4 := hr4.kp hk47
                have HLAB : Hid (Lab (W5.alloc (.cells #[.map (some b0)] 40)) W7 got 0 (wantF (l3.zip l4) (l1.zip l2))) := hLab
                clear hLab hk7 hk6 hk5 hk47 hkw hr1 hr2 hr3 hr4
                go_wp2_with fail
                refine (minInt_any n1 n2 W7 m1 m2).mono ?_
                rintro e V ⟨rfl, hV⟩
                subst V
                have hz1 : (l1.zip l2).length = min n1 n2 := by rw [List.length_zip, HL1.out, HL2.out]
                have hi1 : min n1 n2 ≤ n1 := Nat.min_le_left _ _
                have hi2 : min n1 n2 ≤ n2 := Nat.min_le_right _ _
                generalize min n1 n2 = nn at *
                have HN : Hid _ := hz1
                clear hz1
                go_wp2_with fail
                refine (minInt_any n3 n4 W7 m3 m4).mono ?_
                rintro e V ⟨rfl, hV⟩
                subst V
                have hz3 : (l3.zip l4).length = min n3 n4 := by rw [List.length_zip, HL3.out, HL4.out]
                have hi3 : min n3 n4 ≤ n3 := Nat.min_le_left _ _
                have hi4 : min n3 n4 ≤ n4 := Nat.min_le_right _ _
                generalize min n3 n4 = mm at *
                have HM : Hid _ := hz3
                clear hz3
                have hm49 := run_mk0 Try.underlying49
                have hm44 := run_mk0 Try.underlying44
                go_wp2
                clear hm49
                go_loopw [19] (fun i wr => ∃ j : Nat, j ≤ mm ∧ i = .int .i64 j ∧ Kp W7 wr ∧ ∃ c, MapV wr W7.heap.size j c (puts tru f0 ((l3.zip l4).take j))) (fun i _ => mm - (intOf i).toNat)
                case atStart => exact ⟨0, by omega, rfl, (Kp.refl _).alloc _, 0, MapV.made W7⟩
                case round =>
                  obtain ⟨j, hj, rfl, hE, c, hI⟩ := hrel
                  by_cases hlt : j < mm
                  · obtain ⟨b, off, x, rfl, hwb, z1, hx⟩ := (g3.kp hE).get (i := j) (by rw [HL3.out]; omega)
                    have s0 := HS3.out x (List.mem_of_getElem? hx)
                    have hjl : j < l4.length := by rw [HL4.out]; omega
                    have hzx := zip_get hx (List.getElem?_eq_getElem hjl)
                    obtain ⟨w1, hrun, ⟨c', hI1⟩, hT1⟩ := hI.run_store (t := 49) Try.underlying49 (by unfold maxLen; omega) (s := x) (by unfold maxLen; omega) (.bool true)
                    have hE1 : Kp W7 w1 := hE.turned hT1 (Nat.le_refl _)
                    have hI2 : MapV w1 W7.heap.size (j + 1) c' (puts tru f0 ((l3.zip l4).take (j + 1))) := by
                      rw [puts_snoc tru f0 hzx]
                      exact hI1
                    clear hI1 hT1 hI hE hx hzx hjl hm44
                    go_wp2
                    go_roundw
                    case rel => exact ⟨j + 1, by omega, by go_num, hE1, c', hI2⟩
                    case measure => simp [intOf]; omega
                  · have hI1 : MapV wr W7.heap.size j c (puts tru f0 (l3.zip l4)) := by
                      rw [puts_all tru f0 (k := j) (by rw [HM.out]; omega)] at hI
                      exact hI
                    clear hI
                    obtain ⟨W8, hWe⟩ : ∃ W8 : World, W8 = wr := ⟨_, rfl⟩
                    subst hWe
                    go_wp2
                    clear hm44
                    go_loopw [21] (fun i wr => ∃ k : Nat, k ≤ nn ∧ i = .int .i64 k ∧ Kp W8 wr ∧ ∃ c, MapV wr W8.heap.size k c (wantF (l3.zip l4) ((l1.zip l2).take k))) (fun i _ => nn - (intOf i).toNat)
                    case atStart => exact ⟨0, by omega, rfl, (Kp.refl _).alloc _, 0, MapV.made W8⟩
                    case round =>
                      obtain ⟨k, hk, rfl, hE8, cw, hWm⟩ := hrel
                      by_cases hlt : k < nn
                      · obtain ⟨b, off, x, rfl, hwb, z1, hx⟩ := ((g1.kp hE).kp hE8).get (i := k) (by rw [HL1.out]; omega)
                        obtain ⟨b2, off2, y, rfl, hwb2, z2, hy⟩ := ((g2.kp hE).kp hE8).get (i := k) (by rw [HL2.out]; omega)
                        have s0 := HS1.out x (List.mem_of_getElem? hx)
                        have hzx := zip_get hx hy
                        have hlk := (hI1.kp hE8).run_look (t := 49) Try.underlying49 (zero4 _) (s := x) (by unfold maxLen; omega)
                        rw [isN_val] at hlk
                        cases hN : isN (l3.zip l4) x with
                        | true =>
                          rw [hN] at hlk
                          have hW2 : MapV wr W8.heap.size (k + 1) cw (wantF (l3.zip l4) ((l1.zip l2).take (k + 1))) := by
                            rw [wantF_snoc _ hzx]
                            unfold wstep
                            rw [if_pos hN]
                            exact hWm.mono (by omega)
                          clear hx hy hzx hWm hN
                          go_wp2
                          go_roundw
                          case rel => exact ⟨k + 1, by omega, by go_num, hE8, cw, hW2⟩
                          case measure => simp [intOf]; omega
                        | false =>
                          rw [hN] at hlk
                          obtain ⟨w1, hrun, ⟨c', hW1⟩, hT1⟩ := (hWm.kp (Kp.refl wr).drew).run_store (t := 44) Try.underlying44 (by unfold maxLen; omega) (s := x) (by unfold maxLen; omega) (.string y)
                          have hE1 : Kp W8 w1 := (hE8.trans (Kp.refl wr).drew).turned hT1 (Nat.le_refl _)
                          have hW2 : MapV w1 W8.heap.size (k + 1) c' (wantF (l3.zip l4) ((l1.zip l2).take (k + 1))) := by
                            rw [wantF_snoc _ hzx]
                            unfold wstep
                            rw [if_neg (by rw [hN]; simp)]
                            exact hW1
                          clear hW1 hT1 hWm hx hy hzx hN
                          go_wp2
                          go_big_region
                          go_wp2
                          go_roundw
                          case rel => exact ⟨k + 1, by omega, by go_num, hE1, c', hW2⟩
                          case measure => simp [intOf]; omega
                      · have hW1 : MapV wr W8.heap.size k cw (wantF (l3.zip l4) (l1.zip l2)) := by
                          rw [wantF_all _ (k := k) (by rw [HN.out]; omega)] at hWm
                          exact hWm
                        clear hWm
                        obtain ⟨W9, hWe⟩ : ∃ W9 : World, W9 = wr := ⟨_, rfl⟩
                        subst hWe
                        have hfin : Kp W0 W9 := (hw7.trans hE).trans hE8
                        have hk79 : Kp W7 W9 := hE.trans hE8
                        have hcle := hW1.cnt_le
                        have hnil := fun w r => run_eql_map_nil (P := Try.prog) w 44 9 9 r Try.underlying44
                        have hlen := fun ty => hW1.run_len (t := 44) Try.underlying44 ty
                        by_cases hc0 : cw = 0
                        · have hg : got = .map none := by
                            rcases HLAB.out with ⟨h, _⟩ | ⟨_, _, _, _, _, _, _, s, hs⟩
                            · exact h
                            · rw [hW1.zero.1 hc0 s] at hs; cases hs
                          subst hg
                          subst hc0
                          clear hW1
                          go_wp2
                          go_ret
                          exact ⟨rfl, hfin⟩
                        · obtain ⟨gb, ng, cg, hg, hMg⟩ : ∃ gb ng cg, got = .map (some gb) ∧ MapV W7 gb ng cg (wantF (l3.zip l4) (l1.zip l2)) := by
                            rcases HLAB.out with ⟨_, h⟩ | ⟨gb, ng, cg, h, _, _, hM, _⟩
                            · exact absurd (hW1.zero.2 h) hc0
                            · exact ⟨gb, ng, cg, h, hM⟩
                          subst hg
                          have hMg9 := hMg.kp hk79
                          obtain rfl : cg = cw := hMg9.count hW1
                          have hlen2 := fun ty => hMg9.run_len (t := 44) Try.underlying44 ty
                          have hc1 : ((cg : Int) == 0) = false := by simp; omega
                          clear hMg HLAB
                          go_wp2
                          have r1 := g1.kp hk79
                          have r3' := g3.kp hk79
                          have hI9 := hI1.kp hE8
                          clear hnil hlen hlen2 hc1 g1 g2 g3 g4 hI1
                          go_loopw [22] (fun i wr => ∃ k : Nat, k ≤ nn ∧ i = .int .i64 k ∧ W9 = wr) (fun i _ => nn - (intOf i).toNat)
                          case atStart => exact ⟨0, by omega, rfl, rfl⟩
                          case round =>
                            obtain ⟨i3, hi3', rfl, rfl⟩ := hrel
                            by_cases hlt3 : i3 < nn
                            · obtain ⟨b, off, x, rfl, hwb, z1, hx⟩ := r1.get (i := i3) (by rw [HL1.out]; omega)
                              have s0 := HS1.out x (List.mem_of_getElem? hx)
                              have hyl : i3 < l2.length := by rw [HL2.out]; omega
                              have hzx := List.mem_of_getElem? (zip_get hx (List.getElem?_eq_getElem hyl))
                              have hlk := hI9.run_look (t := 49) Try.underlying49 (zero4 _) (s := x) (by unfold maxLen; omega)
                              rw [isN_val] at hlk
                              have hlg := hMg9.run_look_ok (t := 44) Try.underlying44 (zero9 _) (s := x) (by unfold maxLen; omega)
                              have hlw := hW1.run_look (t := 44) Try.underlying44 (zero9 _) (s := x) (by unfold maxLen; omega)
                              cases hN : isN (l3.zip l4) x with
                              | true =>
                                rw [hN] at hlk
                                clear hx hyl hzx hN hlg hlw
                                go_wp2
                                go_roundw
                                case rel => exact ⟨i3 + 1, by omega, by go_num, by trivial⟩
                                case measure => simp [intOf]; omega
                              | false =>
                                rw [hN] at hlk
                                obtain ⟨u, hu⟩ := want_str hzx hN
                                rw [hu] at hlg hlw
                                simp only [Option.getD_some, Option.isSome_some] at hlg hlw
                                clear hx hyl hzx hN hu
                                go_wp2
                                go_roundw
                                case rel => exact ⟨i3 + 1, by omega, by go_num, by trivial⟩
                                case measure => simp [intOf]; omega
                            · go_wp2
                              go_loopw [25] (fun i wr => ∃ k : Nat, k ≤ mm ∧ i = .int .i64 k ∧ W9 = wr) (fun i _ => mm - (intOf i).toNat)
                              case atStart => exact ⟨0, by omega, rfl, rfl⟩
                              case round =>
                                obtain ⟨i4, hi4', rfl, rfl⟩ := hrel
                                by_cases hlt4 : i4 < mm
                                · obtain ⟨b, off, x, rfl, hwb, z1, hx⟩ := r3'.get (i := i4) (by rw [HL3.out]; omega)
                                  have s0 := HS3.out x (List.mem_of_getElem? hx)
                                  have hyl : i4 < l4.length := by rw [HL4.out]; omega
                                  have hzx := List.mem_of_getElem? (zip_get hx (List.getElem?_eq_getElem hyl))
                                  have hN : isN (l3.zip l4) x = true := (isN_iff _ _).2 ⟨_, hzx, rfl⟩
                                  have hlg := hMg9.run_look_ok (t := 44) Try.underlying44 (zero9 _) (s := x) (by unfold maxLen; omega)
                                  rw [want_num hN] at hlg
                                  simp only [Option.getD_none, Option.isSome_none] at hlg
                                  clear hx hyl hzx hN
                                  go_wp2
                                  go_roundw
                                  case rel => exact ⟨i4 + 1, by omega, by go_num, by trivial⟩
                                  case measure => simp [intOf]; omega
                                · go_wp2
                                  go_ret
                                  exact ⟨rfl, hfin⟩
end Go.Proofs.Qxb6618663a
