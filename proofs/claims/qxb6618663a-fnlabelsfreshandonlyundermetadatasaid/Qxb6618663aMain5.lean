/- FnLabelsFreshAndOnlyUnderMetadata. -/
import Derived.Test.Qxb6618663aSame
set_option linter.unusedVariables false
namespace Go.Proofs.Qxb6618663a
open Go.RowKit Go.Sort Go.Maps

def Cpy5 (w : World) (n : Nat) (l : List ByteArray) (v : Value) (W : World) : Prop := ∃ ao cap, v = .slice ao n cap ∧ RowO Value.string W ao l ∧ Kp w W
theorem one5 (x : ByteArray) : (Value.string x).oneCell' = true := rfl

set_option maxRecDepth 100000 in
set_option maxHeartbeats 4000000 in
theorem fn5_any (a1 a2 : Option Addr) (n1 c1 n2 c2 : Nat) (l1 l2 : List ByteArray) (t : Bool) (w : World) (hn1 : n1 ≤ maxLen) (hn2 : n2 ≤ maxLen) (hl1 : l1.length = n1) (hl2 : l2.length = n2)
    (hR1 : RowO Value.string w a1 l1) (hR2 : RowO Value.string w a2 l2) (hs1 : ∀ x ∈ l1, x.size ≤ maxLen) (hs2 : ∀ x ∈ l2, x.size ≤ maxLen)
    (hz1 : a1 = none → n1 = 0 ∧ c1 = 0) (hz2 : a2 = none → n2 = 0 ∧ c2 = 0) :
    Calls Try.prog 5 #[.slice a1 n1 c1, .slice a2 n2 c2, .bool t] w fun e w' => e = .returned (.bool true) ∧ Kp w w' := by
  have hZ := zz19_any a1 a2 n1 c1 n2 c2 l1 l2 t w hn1 hn2 hl1 hl2 hR1 hR2 hs1 hs2
  have HZ : Hid (Calls Try.prog 19 #[.slice a1 n1 c1, .slice a2 n2 c2, .bool t] w fun e w' => ZZPost w (n1 ≤ 1048576 ∧ n2 ≤ 1048576 ∧ Sm l1 ∧ Sm l2) e w') := hZ
  have HL1 : Hid _ := hl1
  have HL2 : Hid _ := hl2
  have HZ1 : Hid _ := hz1
  have HZ2 : Hid _ := hz2
  clear hZ hl1 hl2 hs1 hs2 hz1 hz2 hn1 hn2
  go_enter Try.func5, Try.ntmps5
  go_wp2_with fail
  refine HZ.out.mono ?_
  clear HZ
  rintro e W0 ⟨rfl, r, rfl, hr⟩
  cases r with
  | false =>
    clear hr
    go_wp2
    go_ret
    exact ⟨rfl, Kp.refl _⟩
  | true =>
    obtain ⟨m1, m2, s1, s2⟩ := hr rfl
    have HS1 : Hid (Sm l1) := s1
    have HS2 : Hid (Sm l2) := s2
    clear hr s1 s2
    have hne := fun w a n c => run_neq_slice_nil_any (P := Try.prog) w 23 9 a n c 0 0 Try.underlying23
    go_upto_if 23 with fail
    go_cut [0] (fun v W => Cpy5 W0 n1 l1 v W)
    case first =>
      cases a1 with
      | none =>
        go_wp2
        go_meet
        exact ⟨_, _, rfl, hR1, Kp.refl _⟩
      | some p =>
        have hmk := run_make23 n1 m1
        go_upto_region 5 with fail
        go_wp2_with (refine wpList_copy_row W0 9 (mk9 n1) n1 (size_madeCells _ _) rfl (.tmp 27) (.tmp 28) 23 rfl Try.underlying23 size9 p c1 l1 HL1.out hR1 one5 rfl rfl ?_)
        intro w1 hk1 hr1
        go_wp2
        go_meet
        exact ⟨_, _, rfl, hr1, hk1⟩
    case rest =>
      obtain ⟨q1, d1, rfl, hr1, hk1⟩ := hcut
      obtain ⟨W1, hWe⟩ : ∃ W1 : World, W1 = wc := ⟨_, rfl⟩
      subst hWe
      clear hR1
      have t2 := hR2.kp hk1
      clear hR2
      have hR2 := t2
      clear t2
      have hkw := hk1
      clear hk1
      go_upto_if 32 with fail
      go_cut [1] (fun v W => Cpy5 W1 n2 l2 v W)
      case first =>
        cases a2 with
        | none =>
          go_wp2
          go_meet
          exact ⟨_, _, rfl, hR2, Kp.refl _⟩
        | some p =>
          have hmk := run_make23 n2 m2
          go_upto_region 9 with fail
          go_wp2_with (refine wpList_copy_row W1 9 (mk9 n2) n2 (size_madeCells _ _) rfl (.tmp 36) (.tmp 37) 23 rfl Try.underlying23 size9 p c2 l2 HL2.out hR2 one5 rfl rfl ?_)
          intro w1 hk1 hr1
          go_wp2
          go_meet
          exact ⟨_, _, rfl, hr1, hk1⟩
      case rest =>
        obtain ⟨q2, d2, rfl, hr2, hk2⟩ := hcut
        obtain ⟨W2, hWe⟩ : ∃ W2 : World, W2 = wc := ⟨_, rfl⟩
        subst hWe
        clear hR2
        have t1 := hr1.kp hk2
        clear hr1
        have hr1 := t1
        clear t1
        have t0 := hkw.trans hk2
        clear hkw hk2
        have hkw := t0
        clear t0
        clear hne HZ1 HZ2
        go_wp2_with fail
        refine (spend_any q1 n1 d1 l1 1048576 W2 m1 HL1.out hr1 (by omega) (by omega) HS1.out).mono ?_
        rintro e V ⟨hV, r1, rfl, p1, p1'⟩
        subst V
        go_wp2_with fail
        refine (spend_any q2 n2 d2 l2 r1 W2 m2 HL2.out hr2 p1 p1' HS2.out).mono ?_
        rintro e V ⟨hV, r2, rfl, p2, p2'⟩
        subst V
        clear p1 p1'
        by_cases hb0 : r2 < 0
        · go_wp2
          go_ret
          exact ⟨rfl, hkw⟩
        · have hka : Kp W2 (W2.alloc (.cells #[.map none] 40)) := (Kp.refl W2).alloc _
          have hcl : (W2.alloc (.cells #[.map none] 40)).heap[W2.heap.size]? = some (.cells #[.map none] 40 (0, 0)) := heap_alloc_new _ _
          have hsz : (W2.alloc (.cells #[.map none] 40)).heap.size = W2.heap.size + 1 := by simp
          have hz12 : (l1.zip l2).length = min n1 n2 := by rw [List.length_zip, HL1.out, HL2.out]
          have HN : Hid _ := hz12
          have hm44 := run_mk0 Try.underlying44
          have hnil := fun w r => run_eql_map_nil (P := Try.prog) w 44 9 9 r Try.underlying44
          clear hz12
          cases t with
          | false =>
            have HO : Hid (Calls Try.prog 21 #[.slice q1 n1 d1, .slice q2 n2 d2] (W2.alloc (.cells #[.map none] 40)) fun e w' => ObjPost (W2.alloc (.cells #[.map none] 40)) ObjM e w') :=
              labels21 q1 q2 n1 d1 n2 d2 l1 l2 _ m1 m2 HL1.out HL2.out (hr1.kp hka) (hr2.kp hka) HS1.out
            go_wp2_with fail
            refine HO.out.mono ?_
            clear HO
            rintro e W5 ⟨b0, rfl, hk5, hO⟩
            have hc5 : W5.heap[W2.heap.size]? = some (.cells #[.map none] 40 (0, 0)) := (hk5.block _ (by rw [hsz]; omega)).trans hcl
            have hcell : W5.cell? ⟨W2.heap.size, 0, none⟩ = some (.map none) := by simp [World.cell?, hc5]
            have hfz : W5.frozen? ⟨W2.heap.size, 0, none⟩ = false := by simp [World.frozen?, hc5]
            have o6 := hO.setCell (a := ⟨W2.heap.size, 0, none⟩) hc5 (.map (some b0))
            have hk26 : Kp W2 (W5.setCell ⟨W2.heap.size, 0, none⟩ (.map (some b0))) := (hka.trans hk5).setCell (Nat.le_refl _) _
            have hc6 : (W5.setCell ⟨W2.heap.size, 0, none⟩ (.map (some b0))).cell? ⟨W2.heap.size, 0, none⟩ = some (.map (some b0)) := by simp [World.cell?, World.setCell, Array.getElem?_modify, hc5]
            have ho6 : W2.heap.size < (W5.setCell ⟨W2.heap.size, 0, none⟩ (.map (some b0))).heap.size := by
              have := hk5.size
              simp [World.setCell]
              omega
            have hi1 : min n1 n2 ≤ n1 := Nat.min_le_left _ _
            have hi2 : min n1 n2 ≤ n2 := Nat.min_le_right _ _
            clear hO hk5 hc5 hcl hsz hb0 p2 p2' hka
            go_upto_region 19 with fail
            clear hcell hfz
            change Code.wp _ _ _ _ (W5.setCell ⟨W2.heap.size, 0, none⟩ (.map (some b0)))
            generalize W5.setCell ⟨W2.heap.size, 0, none⟩ (.map (some b0)) = W6 at *
            have g1 := hr1.kp hk26
            have g2 := hr2.kp hk26
            have hw6 : Kp W0 W6 := hkw.trans hk26
            clear hr1 hr2 hk26 hkw
            go_wp2_with fail
            refine (minInt_any n1 n2 W6 m1 m2).mono ?_
            rintro e V ⟨rfl, hV⟩
            subst V
            generalize min n1 n2 = nn at *
            go_wp2
            clear hm44
            go_loopw [13] (fun i wr => ∃ k : Nat, k ≤ nn ∧ i = .int .i64 k ∧ Kp W6 wr ∧ ∃ c, MapV wr W6.heap.size k c (wantF q0 ((l1.zip l2).take k))) (fun i _ => nn - (intOf i).toNat)
            case atStart => exact ⟨0, by omega, rfl, (Kp.refl _).alloc _, 0, MapV.made W6⟩
            case round =>
              obtain ⟨k, hk, rfl, hE, cw, hWm⟩ := hrel
              by_cases hlt : k < nn
              · obtain ⟨b, off, x, rfl, hwb, z1, hx⟩ := (g1.kp hE).get (i := k) (by rw [HL1.out]; omega)
                obtain ⟨b2, off2, y, rfl, hwb2, z2, hy⟩ := (g2.kp hE).get (i := k) (by rw [HL2.out]; omega)
                have s0 := HS1.out x (List.mem_of_getElem? hx)
                have hzx := zip_get hx hy
                obtain ⟨w1, hrun, ⟨c', hW1⟩, hT1⟩ := (hWm.kp (Kp.refl wr).drew).run_store (t := 44) Try.underlying44 (by unfold maxLen; omega) (s := x) (by unfold maxLen; omega) (.string y)
                have hE1 : Kp W6 w1 := (hE.trans (Kp.refl wr).drew).turned hT1 (Nat.le_refl _)
                have hW2 : MapV w1 W6.heap.size (k + 1) c' (wantF q0 ((l1.zip l2).take (k + 1))) := by
                  rw [wantF_snoc _ hzx, wstep_q0]
                  exact hW1
                clear hW1 hT1 hWm hx hy hzx hnil
                go_wp2
                go_big_region
                go_wp2
                go_roundw
                case rel => exact ⟨k + 1, by omega, by go_num, hE1, c', hW2⟩
                case measure => simp [intOf]; omega
              · have hWt : MapV wr W6.heap.size k cw (wantF q0 (l1.zip l2)) := by
                  rw [wantF_all _ (k := k) (by rw [HN.out]; omega)] at hWm
                  exact hWm
                clear hWm
                obtain ⟨W7, hWe⟩ : ∃ W7 : World, W7 = wr := ⟨_, rfl⟩
                subst hWe
                have hc7 : W7.cell? ⟨W2.heap.size, 0, none⟩ = some (.map (some b0)) := (hE.cell (p := ⟨W2.heap.size, 0, none⟩) ho6).trans hc6
                have ho7 : W2.heap.size < W7.heap.size := Nat.lt_of_lt_of_le ho6 hE.size
                have hw7 : Kp W0 W7 := hw6.trans hE
                have o7 := o6.kp hE
                clear hWt g1 g2
                go_wp2_with fail
                refine (labels_none b0 W7 o7).mono ?_
                rintro e W8 ⟨rfl, hk8⟩
                have hc8 : W8.cell? ⟨W2.heap.size, 0, none⟩ = some (.map (some b0)) := (hk8.cell (p := ⟨W2.heap.size, 0, none⟩) ho7).trans hc7
                have ho8 : W2.heap.size < W8.heap.size := Nat.lt_of_lt_of_le ho7 hk8.size
                have o8 := o7.kp hk8
                clear hc7 hc6
                go_wp2_with fail
                refine (labels_none b0 W8 o8).mono ?_
                rintro e W9 ⟨rfl, hk9⟩
                clear hc8
                go_wp2
                go_ret
                exact ⟨rfl, (hw7.trans hk8).trans hk9⟩
          | true =>
            have HO : Hid (Calls Try.prog 20 #[.slice q1 n1 d1, .slice q2 n2 d2, .slice none 0 0, .slice none 0 0] (W2.alloc (.cells #[.map none] 40)) fun e w' => ObjPost (W2.alloc (.cells #[.map none] 40)) (fun W b => ObjL W b (memF (l1.zip l2) q0)) e w') :=
              labels20 q1 q2 none none n1 d1 n2 d2 0 0 0 0 l1 l2 [] [] _ m1 m2 (by omega) (by omega) HL1.out HL2.out rfl rfl (hr1.kp hka) (hr2.kp hka) (Or.inl rfl) (Or.inl rfl) HS1.out Sm.none
            go_wp2_with fail
            refine HO.out.mono ?_
            clear HO
            rintro e W5 ⟨b0, rfl, hk5, hO⟩
            have hc5 : W5.heap[W2.heap.size]? = some (.cells #[.map none] 40 (0, 0)) := (hk5.block _ (by rw [hsz]; omega)).trans hcl
            have hcell : W5.cell? ⟨W2.heap.size, 0, none⟩ = some (.map none) := by simp [World.cell?, hc5]
            have hfz : W5.frozen? ⟨W2.heap.size, 0, none⟩ = false := by simp [World.frozen?, hc5]
            have o6 := hO.setCell (a := ⟨W2.heap.size, 0, none⟩) hc5 (.map (some b0))
            have hk26 : Kp W2 (W5.setCell ⟨W2.heap.size, 0, none⟩ (.map (some b0))) := (hka.trans hk5).setCell (Nat.le_refl _) _
            have hc6 : (W5.setCell ⟨W2.heap.size, 0, none⟩ (.map (some b0))).cell? ⟨W2.heap.size, 0, none⟩ = some (.map (some b0)) := by simp [World.cell?, World.setCell, Array.getElem?_modify, hc5]
            have ho6 : W2.heap.size < (W5.setCell ⟨W2.heap.size, 0, none⟩ (.map (some b0))).heap.size := by
              have := hk5.size
              simp [World.setCell]
              omega
            have hi1 : min n1 n2 ≤ n1 := Nat.min_le_left _ _
            have hi2 : min n1 n2 ≤ n2 := Nat.min_le_right _ _
            clear hO hk5 hc5 hcl hsz hb0 p2 p2' hka
            go_upto_region 19 with fail
            clear hcell hfz
            change Code.wp _ _ _ _ (W5.setCell ⟨W2.heap.size, 0, none⟩ (.map (some b0)))
            generalize W5.setCell ⟨W2.heap.size, 0, none⟩ (.map (some b0)) = W6 at *
            have g1 := hr1.kp hk26
            have g2 := hr2.kp hk26
            have hw6 : Kp W0 W6 := hkw.trans hk26
            clear hr1 hr2 hk26 hkw
            go_wp2_with fail
            refine (minInt_any n1 n2 W6 m1 m2).mono ?_
            rintro e V ⟨rfl, hV⟩
            subst V
            generalize min n1 n2 = nn at *
            go_wp2
            clear hm44
            go_loopw [13] (fun i wr => ∃ k : Nat, k ≤ nn ∧ i = .int .i64 k ∧ Kp W6 wr ∧ ∃ c, MapV wr W6.heap.size k c (wantF q0 ((l1.zip l2).take k))) (fun i _ => nn - (intOf i).toNat)
            case atStart => exact ⟨0, by omega, rfl, (Kp.refl _).alloc _, 0, MapV.made W6⟩
            case round =>
              obtain ⟨k, hk, rfl, hE, cw, hWm⟩ := hrel
              by_cases hlt : k < nn
              · obtain ⟨b, off, x, rfl, hwb, z1, hx⟩ := (g1.kp hE).get (i := k) (by rw [HL1.out]; omega)
                obtain ⟨b2, off2, y, rfl, hwb2, z2, hy⟩ := (g2.kp hE).get (i := k) (by rw [HL2.out]; omega)
                have s0 := HS1.out x (List.mem_of_getElem? hx)
                have hzx := zip_get hx hy
                obtain ⟨w1, hrun, ⟨c', hW1⟩, hT1⟩ := (hWm.kp (Kp.refl wr).drew).run_store (t := 44) Try.underlying44 (by unfold maxLen; omega) (s := x) (by unfold maxLen; omega) (.string y)
                have hE1 : Kp W6 w1 := (hE.trans (Kp.refl wr).drew).turned hT1 (Nat.le_refl _)
                have hW2 : MapV w1 W6.heap.size (k + 1) c' (wantF q0 ((l1.zip l2).take (k + 1))) := by
                  rw [wantF_snoc _ hzx, wstep_q0]
                  exact hW1
                clear hW1 hT1 hWm hx hy hzx hnil
                go_wp2
                go_big_region
                go_wp2
                go_roundw
                case rel => exact ⟨k + 1, by omega, by go_num, hE1, c', hW2⟩
                case measure => simp [intOf]; omega
              · have hWt : MapV wr W6.heap.size k cw (wantF q0 (l1.zip l2)) := by
                  rw [wantF_all _ (k := k) (by rw [HN.out]; omega)] at hWm
                  exact hWm
                clear hWm
                obtain ⟨W7, hWe⟩ : ∃ W7 : World, W7 = wr := ⟨_, rfl⟩
                subst hWe
                have hc7 : W7.cell? ⟨W2.heap.size, 0, none⟩ = some (.map (some b0)) := (hE.cell (p := ⟨W2.heap.size, 0, none⟩) ho6).trans hc6
                have ho7 : W2.heap.size < W7.heap.size := Nat.lt_of_lt_of_le ho6 hE.size
                have hw7 : Kp W0 W7 := hw6.trans hE
                have o7 := o6.kp hE
                have HLb : ∀ W, ObjL W b0 (memF (l1.zip l2) q0) → Hid (Calls Try.prog 23 #[.agg #[.map (some b0)]] W fun e w' => LabPost W (wantF q0 (l1.zip l2)) e w') := fun W hW => by
                  have := labels_any b0 _ W hW (good_mem _ _)
                  rw [want_eq] at this
                  exact this
                have hgs : ∀ i x, i < nn → l1[i]? = some x → ∃ u, wantF q0 (l1.zip l2) x = some (.string u) := by
                  intro i x hi hx
                  have hyl : i < l2.length := by rw [HL2.out]; omega
                  exact want_str (List.mem_of_getElem? (zip_get hx (List.getElem?_eq_getElem hyl))) (isN_q0 x)
                have HGS : Hid _ := hgs
                clear hgs
                go_wp2_with fail
                refine (HLb W7 o7).out.mono ?_
                rintro e W8 ⟨hk8, fv, rfl, hLab⟩
                have HLAB : Hid (Lab W7 W8 fv 0 (wantF q0 (l1.zip l2))) := hLab
                have hc8 : W8.cell? ⟨W2.heap.size, 0, none⟩ = some (.map (some b0)) := (hk8.cell (p := ⟨W2.heap.size, 0, none⟩) ho7).trans hc7
                have ho8 : W2.heap.size < W8.heap.size := Nat.lt_of_lt_of_le ho7 hk8.size
                have o8 := o7.kp hk8
                have hWt8 := hWt.kp hk8
                have hlen := fun ty => hWt8.run_len (t := 44) Try.underlying44 ty
                have HC7 : Hid _ := hc7
                clear hLab hc6
                by_cases hc0 : cw = 0
                · have hg : fv = .map none := by
                    rcases HLAB.out with ⟨h, _⟩ | ⟨_, _, _, _, _, _, _, s, hs⟩
                    · exact h
                    · rw [hWt.zero.1 hc0 s] at hs; cases hs
                  subst hg
                  subst hc0
                  go_wp2_with fail
                  refine (HLb W8 o8).out.mono ?_
                  rintro e W9 ⟨hk9, sv, rfl, hLab2⟩
                  have hg2 : sv = .map none := by
                    rcases hLab2 with ⟨h, _⟩ | ⟨_, _, _, _, _, _, _, s, hs⟩
                    · exact h
                    · rw [hWt.zero.1 rfl s] at hs; cases hs
                  subst hg2
                  clear hc7 hc8 hlen hWt hWt8
                  go_wp2
                  go_ret
                  exact ⟨rfl, (hw7.trans hk8).trans hk9⟩
                · obtain ⟨fb, nf, cf, hg, hfb, hMf⟩ : ∃ fb nf cf, fv = .map (some fb) ∧ W7.heap.size ≤ fb ∧ MapV W8 fb nf cf (wantF q0 (l1.zip l2)) := by
                    rcases HLAB.out with ⟨_, h⟩ | ⟨gb, ng, cg, h, h1, _, hM, _⟩
                    · exact absurd (hWt.zero.2 h) hc0
                    · exact ⟨gb, ng, cg, h, h1, hM⟩
                  subst hg
                  obtain rfl : cf = cw := hMf.count hWt8
                  have hc1 : ((cf : Int) == 0) = false := by simp; omega
                  have HC0 : Hid _ := hc0
                  have r8 := (g1.kp hE).kp hk8
                  have HSA : Hid (Calls Try.prog 24 #[.map (some fb), .map (some W6.heap.size), .slice q1 n1 d1, .int .i64 nn] W8 fun e w' => e = .returned (.bool true) ∧ w' = W8) :=
                    same_any fb W6.heap.size nf k cf _ q1 n1 d1 nn l1 W8 m1 hi1 HL1.out r8 HS1.out hMf hWt8 HGS.out
                  clear HLAB
                  go_wp2_with fail
                  refine HSA.out.mono ?_
                  rintro e V ⟨rfl, hV⟩
                  subst V
                  clear HSA hlen hc1 hnil
                  have hst : ∃ (c : Nat) (g : Fn), MapV W8 fb nf c g := ⟨_, _, hMf⟩
                  have hfl := hMf.lt
                  clear hMf hc7 hc8
                  go_wp2
                  go_loopw [15] (fun i wr => ∃ j : Nat, j ≤ nn ∧ i = .int .i64 j ∧ Kp W7 wr ∧ ∃ (c : Nat) (g : Fn), MapV wr fb nf c g) (fun i _ => nn - (intOf i).toNat)
                  case atStart => exact ⟨0, by omega, rfl, hk8, hst⟩
                  case round =>
                    clear hst
                    obtain ⟨j, hj, rfl, hEj, cj, gj, hMj⟩ := hrel
                    by_cases hltj : j < nn
                    · obtain ⟨b, off, x, rfl, hwb, z1, hx⟩ := ((g1.kp hE).kp hEj).get (i := j) (by rw [HL1.out]; omega)
                      have s0 := HS1.out x (List.mem_of_getElem? hx)
                      have s1 : x.size ≤ maxLen := by unfold maxLen; omega
                      clear hx
                      go_wp2_with (at_delete; refine wpList_del_V _ rfl (.tmp 101) (.tmp 105) 44 rfl 9 Try.underlying44 fb nf cj gj rfl hMj x rfl s1 ?_; intro w1 hM1 hT1)
                      obtain ⟨c', hM2⟩ := hM1
                      have hE1 : Kp W7 w1 := hEj.turned hT1 hfb
                      clear hT1 hMj
                      go_wp2
                      go_roundw
                      case rel => exact ⟨j + 1, by omega, by go_num, hE1, c', _, hM2⟩
                      case measure => simp [intOf]; omega
                    · obtain ⟨W9, hWe⟩ : ∃ W9 : World, W9 = wr := ⟨_, rfl⟩
                      subst hWe
                      clear hMj
                      have hc9 : W9.cell? ⟨W2.heap.size, 0, none⟩ = some (.map (some b0)) := (hEj.cell (p := ⟨W2.heap.size, 0, none⟩) ho7).trans HC7.out
                      have ho9 : W2.heap.size < W9.heap.size := Nat.lt_of_lt_of_le ho7 hEj.size
                      go_wp2_with fail
                      refine (HLb W9 (o7.kp hEj)).out.mono ?_
                      rintro e W10 ⟨hk10, sv, rfl, hLab2⟩
                      have hWt10 := (hWt.kp hEj).kp hk10
                      obtain ⟨sb, ns, cs, hg, hMs⟩ : ∃ sb ns cs, sv = .map (some sb) ∧ MapV W10 sb ns cs (wantF q0 (l1.zip l2)) := by
                        rcases hLab2 with ⟨_, h⟩ | ⟨gb, ng, cg, h, _, _, hM, _⟩
                        · exact absurd (hWt.zero.2 h) HC0.out
                        · exact ⟨gb, ng, cg, h, hM⟩
                      subst hg
                      obtain rfl : cs = cf := hMs.count hWt10
                      have r10 := ((g1.kp hE).kp hEj).kp hk10
                      have HSB : Hid (Calls Try.prog 24 #[.map (some sb), .map (some W6.heap.size), .slice q1 n1 d1, .int .i64 nn] W10 fun e w' => e = .returned (.bool true) ∧ w' = W10) :=
                        same_any sb W6.heap.size ns k cs _ q1 n1 d1 nn l1 W10 m1 hi1 HL1.out r10 HS1.out hMs hWt10 HGS.out
                      clear hLab2 hMs hWt10 hc9
                      go_wp2_with fail
                      refine HSB.out.mono ?_
                      rintro e V ⟨rfl, hV⟩
                      subst V
                      go_wp2
                      go_ret
                      exact ⟨rfl, (hw7.trans hEj).trans hk10⟩
end Go.Proofs.Qxb6618663a
