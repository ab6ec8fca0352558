import Derived.Test.Qxb6618031aTail4
import Derived.Test.Qxb6618031aEarly4
import Derived.Deep.RegionWith
import Derived.Deep.DeepCutAuto
set_option linter.unusedVariables false
namespace Go.Proofs.Qxb6618031a
open Go.RowKit Go.Sort

set_option maxRecDepth 100000 in
set_option maxHeartbeats 4000000 in
theorem fn4_main (b off n cap : Nat) (Z : Nat → W3) (i gi keep m : Nat) (w : World) (hR : Row3 w b off n Z) (hn2 : 2 ≤ n) (hn : n ≤ 32768) (hi : i < n) (hg : gi < n) (hne : gi ≠ i) (hk : 1 ≤ keep) (hkm : keep ≤ 9223372036854775807)
    (hm : m = min keep n) :
    Calls Try.prog 4 #[.slice (some ⟨b, off, none⟩) n cap, .int .i64 i, .int .i64 gi, .int .i64 keep] w fun e w' => e = .returned (.bool true) ∧ Below w.heap.size w w' := by
  have hne' : ((gi : Int) == (i : Int)) = false := by simpa using (fun h : (gi : Int) = i => hne (by omega))
  have HM : Hid _ := hm
  clear hm
  cases hasc : ascB Z n with
  | false =>
    go_enter Try.func4, Try.ntmps4
    go_wp2_with (first | (go_at_call 13; refine (bytes13_ok _ _ _ _ _ _ _ (by omega)).mono ?_; rintro e w' ⟨rfl, rfl⟩) | (go_at_call 7; refine (asc_any b off n cap Z _ (by omega) hR).mono ?_; rintro e w1 ⟨rfl, hE1⟩))
    go_ret
    exact ⟨rfl, hE1.below⟩
  | true =>
    have hinj : Hid _ := fun a b (ha : a < n) (hb : b < n) (e : Z a = Z b) => asc_inj (ascB_spec hasc) ha hb e
    have ipi : ((i : Int) + n - 1) % n = ((i + n - 1) % n : Nat) := by
      rw [← mod_nat (i + n - 1) n _ rfl, show ((i + n - 1 : Nat) : Int) = (i : Int) + n - 1 by omega]
    have ipg : Hid (((gi : Int) + n - 1) % n = ((gi + n - 1) % n : Nat)) := by
      show ((gi : Int) + n - 1) % n = ((gi + n - 1) % n : Nat)
      rw [← mod_nat (gi + n - 1) n _ rfl, show ((gi + n - 1 : Nat) : Int) = (gi : Int) + n - 1 by omega]
    have IPI : Hid _ := ipi
    clear ipi
    have hmi : (if n < keep then (n : Int) else keep) = (m : Int) := by rw [HM.out]; split <;> omega
    go_enter Try.func4, Try.ntmps4
    go_wp2_with (first | (go_at_call 13; refine (bytes13_ok _ _ _ _ _ _ _ (by omega)).mono ?_; rintro e w' ⟨rfl, rfl⟩) | (go_at_call 7; refine (asc_any b off n cap Z _ (by omega) hR).mono ?_; rintro e w1 ⟨rfl, hE1⟩))
    refine (toIDs_any b off n cap Z _ (by omega) (hR.ext hE1)).mono ?_
    rintro e w2 ⟨rfl, hE2, hB2⟩
    go_wp2_with fail
    refine (settled_any _ n Z _ (by omega) hB2 i keep m ((i + n - 1) % n) hi (by omega) hmi (by rw [HM.out]; omega) (Nat.mod_lt _ (by omega)) IPI.out).mono ?_
    rintro e w3 ⟨bs, rfl, hE3, hbs3, hS3⟩
    unfold placeVal
    go_wp2_with fail
    refine (settled_any _ n Z _ (by omega) ((hB2.ext hE3).ext ((Ext.refl _).alloc _)) gi keep m ((gi + n - 1) % n) hg (by omega) hmi (by rw [HM.out]; omega) (Nat.mod_lt _ (by omega)) ipg.out).mono ?_
    rintro e w4 ⟨bg, rfl, hE4, hbg4, hG4⟩
    unfold placeVal
    go_wp2_with fail
    have hids : Buf3 (w4.alloc (placeObj (Z gi) (Z ((gi + n - 1) % n)) bg m keep)) w1.heap.size n Z := (((hB2.ext hE3).ext ((Ext.refl _).alloc _)).ext hE4).ext ((Ext.refl _).alloc _)
    have hPg : (w4.alloc (placeObj (Z gi) (Z ((gi + n - 1) % n)) bg m keep)).heap[w4.heap.size]? = some (placeObj (Z gi) (Z ((gi + n - 1) % n)) bg m keep) := by show (w4.heap.push _)[w4.heap.size]? = _; simp
    have hE34 : Ext w3 w4 := ((Ext.refl w3).alloc _).trans hE4
    have hPp : (w4.alloc (placeObj (Z gi) (Z ((gi + n - 1) % n)) bg m keep)).heap[w3.heap.size]? = some (placeObj (Z i) (Z ((i + n - 1) % n)) bs m keep) := by
      have hlt : w3.heap.size < w4.heap.size := by have := hE4.size; simp at this; omega
      rw [((Ext.refl w4).alloc _).block _ hlt, hE4.block _ (by simp)]
      show (w3.heap.push _)[w3.heap.size]? = _
      simp [placeObj]
    have hSb := (hS3.ext hE34).ext ((Ext.refl w4).alloc (placeObj (Z gi) (Z ((gi + n - 1) % n)) bg m keep))
    have hGb := hG4.ext ((Ext.refl w4).alloc (placeObj (Z gi) (Z ((gi + n - 1) % n)) bg m keep))
    have hEw : Ext w' (w4.alloc (placeObj (Z gi) (Z ((gi + n - 1) % n)) bg m keep)) := (((hE1.trans hE2).trans hE3).trans hE34).alloc _
    have hb3 := hS3.lt
    have hb4 := hG4.lt
    have hbp1 : w'.heap.size ≤ w3.heap.size := ((hE1.trans hE2).trans hE3).size
    have hbp2 : w3.heap.size < w4.heap.size := by have := hE4.size; simp at this; omega
    have hbg5 : w3.heap.size + 1 ≤ bg := by simpa using hbg4
    change Code.wp _ _ _ _ (w4.alloc (placeObj (Z gi) (Z ((gi + n - 1) % n)) bg m keep))
    generalize w4.alloc (placeObj (Z gi) (Z ((gi + n - 1) % n)) bg m keep) = W at hids hPg hPp hSb hGb hEw ⊢
    obtain ⟨a0, a1, a2⟩ := hids.cell hg
    obtain ⟨q0, q1, q2, q3, q4, q5, q6, q7, q8⟩ := place_cells hPg
    have hPp' : W.drew.heap[w3.heap.size]? = some (placeObj (Z i) (Z ((i + n - 1) % n)) bs m keep) := hPp
    have hl := left_law Z n i gi (if gi < i then i - 1 else i) keep m w3.heap.size bs bg W.drew hn2 (by omega) hi hg hne hk rfl HM.out hinj.out hPp' (hSb.ext (Ext.refl W).drew) (hGb.ext (Ext.refl W).drew) (by omega) (by omega)
    obtain ⟨ri, hri⟩ : ∃ ri, ri = (if gi < i then i - 1 else i) := ⟨_, rfl⟩
    rw [← hri] at hl
    have HRI : Hid _ := hri
    clear hri
    go_cut [82] (fun _ wc => (gi = (i + 1) % n → LeftPost W.drew wc w3.heap.size (Z i) (Z (pE n i gi ri)) keep (min keep (n - 1)) (fun j => Z (sk gi ((ri + 1 + j) % (n - 1))))) ∧
        (gi ≠ (i + 1) % n → LeftPost W.drew wc w3.heap.size (Z i) (Z (pE n i gi ri)) keep (min keep n) (fun j => Z ((i + 1 + j) % n))))
    case first =>
      go_region_with (go_at_call 14; refine hl.mono ?_; rintro e w5 ⟨rfl, hl1, hl2⟩)
      all_goals (go_wp2_with fail)
      all_goals go_meet
      all_goals exact ⟨hl1, hl2⟩
    case rest =>
      obtain ⟨hl1, hl2⟩ := hcut
      have hEd : Ext w' W.drew := hEw.drew
      clear hl a0 a1 a2 q0 q1 q2 q3 q4 q5 q6 q7 q8 hPg hPp hPp' hSb hGb hids hEw
      obtain ⟨wo, hwo⟩ : ∃ wo : World, wo = wc := ⟨_, rfl⟩
      subst hwo
      obtain ⟨s1, hs1⟩ : ∃ s1, s1 = (i + 1) % n := ⟨_, rfl⟩
      obtain ⟨p1, hp1⟩ : ∃ p1, p1 = (i + n - 1) % n := ⟨_, rfl⟩
      obtain ⟨t0, ht0⟩ : ∃ t0, t0 = (ri + (n - 1) - 1) % (n - 1) := ⟨_, rfl⟩
      obtain ⟨pe, hpe⟩ : ∃ pe, pe = pE n i gi ri := ⟨_, rfl⟩
      obtain ⟨km, hkm1⟩ : ∃ km, km = min keep (n - 1) := ⟨_, rfl⟩
      rw [← hs1, ← hpe, ← hkm1] at hl1
      rw [← hs1, ← hpe, ← HM.out] at hl2
      have hri1 : ri + 1 ≤ n - 1 := by rw [HRI.out]; split <;> omega
      have ht0n : t0 < n - 1 := by rw [ht0]; exact Nat.mod_lt _ (by omega)
      have hp1n : p1 < n := by rw [hp1]; exact Nat.mod_lt _ (by omega)
      have is1 : ((i : Int) + 1) % n = s1 := mod_nat (i + 1) n s1 hs1
      have ip1 : ((i : Int) + n - 1) % n = p1 := by
        have := mod_nat (i + n - 1) n p1 hp1
        rwa [show ((i + n - 1 : Nat) : Int) = (i : Int) + n - 1 by omega] at this
      have it0 : ((ri : Int) + (n - 1) - 1) % (n - 1) = t0 := by
        have := mod_nat (ri + (n - 1) - 1) (n - 1) t0 ht0
        rwa [show ((ri + (n - 1) - 1 : Nat) : Int) = (ri : Int) + (n - 1) - 1 by omega, show ((n - 1 : Nat) : Int) = (n : Int) - 1 by omega] at this
      have HS1 : Hid _ := hs1
      have HP1 : Hid _ := hp1
      have HT0 : Hid _ := ht0
      have HPE : Hid _ := hpe
      have HKM : Hid _ := hkm1
      have e1 := eq3_refl (Z i)
      clear hs1 hp1 ht0 hpe hkm1
      by_cases hs : gi = s1
      · obtain ⟨g, cap', hT⟩ := TS.of_left hR hEd hbp1 (hl1 hs)
        have hgs : ((gi : Int) == (s1 : Int)) = true := by simp [hs]
        have hpeq : eq3 (Z pe) (Z (sk gi t0)) = true := by
          rw [HPE.out, HT0.out, pE, if_pos (Or.inl (by rw [← HS1.out]; exact hs))]; exact eq3_refl _
        have HSS : Hid _ := hs
        clear hl1 hl2 hs
        go_upto_if 88 with fail
        go_cut [14] (fun v wx => v = .int .i64 ri ∧ wx = wo)
        case first =>
          by_cases hgi : gi < i
          · have hrr : ri = i - 1 := by rw [HRI.out, if_pos hgi]
            go_wp2
            go_meet
            exact ⟨by rw [hrr]; congr 1; omega, rfl⟩
          · have hrr : ri = i := by rw [HRI.out, if_neg hgi]
            go_wp2
            go_meet
            exact ⟨by rw [hrr], rfl⟩
        case rest =>
          obtain ⟨rfl, rfl⟩ := hcut
          go_wp2_with (first | (go_at_call_of 10 (Value.int .i64 (n : Int)); refine (minInt_eq _ _ (m : Int) _ (by rw [HM.out]; split <;> omega)).mono ?_; rintro e w9 ⟨rfl, hw9⟩; rw [hw9]; clear hw9) | (go_at_call 10; refine (minInt_eq _ _ (km : Int) _ (by rw [HKM.out]; split <;> omega)).mono ?_; rintro e w9 ⟨rfl, hw9⟩; rw [hw9]; clear hw9))
          have c0 := fun m os => (placeV_cells (hT.quiet m os).place).1
          have c1 := fun m os => (placeV_cells (hT.quiet m os).place).2.1
          have c2 := fun m os => (placeV_cells (hT.quiet m os).place).2.2.1
          have c7 := fun m os => (placeV_cells (hT.quiet m os).place).2.2.2.2.2.2.2
          obtain ⟨x0, x1, x2⟩ := hT.ws.quiet hi
          refine wp_region_quiet_grown follows (by kernel_rfl) ?_
          repeat (go_big_quiet_step ((go_at_call 11; refine Ext.grown (sameWords_any (Z i) (Z i) _))))
          refine wpQuiet_nil ?_
          intro _ hw'
          obtain ⟨⟨nq, osq⟩, hw''⟩ := hw'
          subst hw''
          have hT1 := hT.quiet nq osq
          clear c0 c1 c2 c7 x0 x1 x2 hT
          generalize grow (wc.drewN nq) osq = W1 at hT1 ⊢
          go_wp2
          have c3 := fun m os => (placeV_cells (hT1.quiet m os).place).2.2.2.1
          have c4 := fun m os => (placeV_cells (hT1.quiet m os).place).2.2.2.2.1
          have c5 := fun m os => (placeV_cells (hT1.quiet m os).place).2.2.2.2.2.1
          refine wp_region_quiet_grown follows (by kernel_rfl) ?_
          repeat (go_big_quiet_step (first | (go_at_call 11; refine Ext.grown (sameWords_any (Z pe) (Z (sk gi t0)) _)) | (go_at_call 15; refine Ext.grown (skipAt_sk b off n cap Z gi t0 _ (by omega) (hT1.quiet _ _).ws (by omega)))))
          refine wpQuiet_nil ?_
          intro _ hw'
          obtain ⟨⟨nq, osq⟩, hw''⟩ := hw'
          subst hw''
          have hT2 := hT1.quiet nq osq
          clear c3 c4 c5 hT1
          generalize grow (W1.drewN nq) osq = W2 at hT2 ⊢
          have c6 := (placeV_cells hT2.place).2.2.2.2.2.2.1
          go_wp2
          go_loopw [19] (fun v wr => ∃ j : Nat, j ≤ km ∧ v = .int .i64 j ∧ TS w' wr b off n Z w3.heap.size i (Z pe) keep g km cap' (fun j => Z (sk gi ((ri + 1 + j) % (n - 1))))) (fun v _ => km - (intOf v).toNat)
          case atStart => exact ⟨0, by omega, rfl, hT2⟩
          case round =>
            obtain ⟨j, hj, rfl, hTr⟩ := hrel
            clear hT2 c6
            by_cases hlt : j < km
            · obtain ⟨t, ht⟩ : ∃ t, t = (ri + 1 + j) % (n - 1) := ⟨_, rfl⟩
              have htn : t < n - 1 := by rw [ht]; exact Nat.mod_lt _ (by omega)
              have hjn : j < n - 1 := by have := HKM.out; omega
              have it : ((ri : Int) + 1 + j) % (n - 1) = t := by
                have := mod_nat (ri + 1 + j) (n - 1) t ht
                rwa [show ((ri + 1 + j : Nat) : Int) = (ri : Int) + 1 + j by omega, show ((n - 1 : Nat) : Int) = (n : Int) - 1 by omega] at this
              have y0 : ∀ m os, (grow (wr.drewN m) os).cell? ⟨g, j * 3, none⟩ = some (.int .u64 (Z (sk gi t)).1) := fun m os => by rw [ht]; exact ((hTr.quiet m os).succ.at0 hlt).1
              have y1 : ∀ m os, (grow (wr.drewN m) os).cell? ⟨g, j * 3 + 1, none⟩ = some (.int .u64 (Z (sk gi t)).2.1) := fun m os => by rw [ht]; exact ((hTr.quiet m os).succ.at0 hlt).2.1
              have y2 : ∀ m os, (grow (wr.drewN m) os).cell? ⟨g, j * 3 + 2, none⟩ = some (.int .u64 (Z (sk gi t)).2.2) := fun m os => by rw [ht]; exact ((hTr.quiet m os).succ.at0 hlt).2.2
              have e2 := eq3_refl (Z (sk gi t))
              clear ht
              have c6 := fun m os => (placeV_cells (hTr.quiet m os).place).2.2.2.2.2.2.1
              go_wp2
              refine wp_region_quiet_grown follows (by kernel_rfl) ?_
              repeat (go_big_quiet_step (first | (go_at_call 11; refine Ext.grown (sameWords_any (Z (sk gi t)) (Z (sk gi t)) _)) | (go_at_call 15; refine Ext.grown (skipAt_sk b off n cap Z gi t _ (by omega) (hTr.quiet _ _).ws (by omega)))))
              refine wpQuiet_nil ?_
              intro _ hw'
              obtain ⟨⟨nq, osq⟩, hw''⟩ := hw'
              subst hw''
              go_wp2
              go_roundw
              case rel => exact ⟨j + 1, by omega, by go_num, hTr.quiet _ _⟩
              case measure => simp [intOf]; omega
            · have hje : ((j : Int) = (km : Int)) := by omega
              go_wp2
              go_ret
              exact ⟨rfl, hTr.below⟩
      · obtain ⟨g, cap', hT⟩ := TS.of_left hR hEd hbp1 (hl2 hs)
        have hgs : ((gi : Int) == (s1 : Int)) = false := by simpa using (fun h : (gi : Int) = s1 => hs (by omega))
        have HSS : Hid _ := hs
        clear hl1 hl2 hs
        by_cases hp : gi = p1
        · have hgp : ((gi : Int) == (p1 : Int)) = true := by simp [hp]
          have hpeq : eq3 (Z pe) (Z (sk gi t0)) = true := by
            rw [HPE.out, HT0.out, pE, if_pos (Or.inr (by rw [← HP1.out]; exact hp))]; exact eq3_refl _
          clear hp
          go_upto_if 88 with fail
          go_cut [14] (fun v wx => v = .int .i64 ri ∧ wx = wo)
          case first =>
            by_cases hgi : gi < i
            · have hrr : ri = i - 1 := by rw [HRI.out, if_pos hgi]
              go_wp2
              go_meet
              exact ⟨by rw [hrr]; congr 1; omega, rfl⟩
            · have hrr : ri = i := by rw [HRI.out, if_neg hgi]
              go_wp2
              go_meet
              exact ⟨by rw [hrr], rfl⟩
          case rest =>
            obtain ⟨rfl, rfl⟩ := hcut
            go_wp2_with (first | (go_at_call_of 10 (Value.int .i64 (n : Int)); refine (minInt_eq _ _ (m : Int) _ (by rw [HM.out]; split <;> omega)).mono ?_; rintro e w9 ⟨rfl, hw9⟩; rw [hw9]; clear hw9) | (go_at_call 10; refine (minInt_eq _ _ (km : Int) _ (by rw [HKM.out]; split <;> omega)).mono ?_; rintro e w9 ⟨rfl, hw9⟩; rw [hw9]; clear hw9))
            have c0 := fun m os => (placeV_cells (hT.quiet m os).place).1
            have c1 := fun m os => (placeV_cells (hT.quiet m os).place).2.1
            have c2 := fun m os => (placeV_cells (hT.quiet m os).place).2.2.1
            have c7 := fun m os => (placeV_cells (hT.quiet m os).place).2.2.2.2.2.2.2
            obtain ⟨x0, x1, x2⟩ := hT.ws.quiet hi
            refine wp_region_quiet_grown follows (by kernel_rfl) ?_
            repeat (go_big_quiet_step ((go_at_call 11; refine Ext.grown (sameWords_any (Z i) (Z i) _))))
            refine wpQuiet_nil ?_
            intro _ hw'
            obtain ⟨⟨nq, osq⟩, hw''⟩ := hw'
            subst hw''
            have hT1 := hT.quiet nq osq
            clear c0 c1 c2 c7 x0 x1 x2 hT
            generalize grow (wc.drewN nq) osq = W1 at hT1 ⊢
            go_wp2
            have c3 := fun m os => (placeV_cells (hT1.quiet m os).place).2.2.2.1
            have c4 := fun m os => (placeV_cells (hT1.quiet m os).place).2.2.2.2.1
            have c5 := fun m os => (placeV_cells (hT1.quiet m os).place).2.2.2.2.2.1
            refine wp_region_quiet_grown follows (by kernel_rfl) ?_
            repeat (go_big_quiet_step (first | (go_at_call 11; refine Ext.grown (sameWords_any (Z pe) (Z (sk gi t0)) _)) | (go_at_call 15; refine Ext.grown (skipAt_sk b off n cap Z gi t0 _ (by omega) (hT1.quiet _ _).ws (by omega)))))
            refine wpQuiet_nil ?_
            intro _ hw'
            obtain ⟨⟨nq, osq⟩, hw''⟩ := hw'
            subst hw''
            have hT2 := hT1.quiet nq osq
            clear c3 c4 c5 hT1
            generalize grow (W1.drewN nq) osq = W2 at hT2 ⊢
            have c6 := (placeV_cells hT2.place).2.2.2.2.2.2.1
            go_wp2
            go_loopw [20] (fun v wr => ∃ j : Nat, j ≤ m ∧ v = .int .i64 j ∧ TS w' wr b off n Z w3.heap.size i (Z pe) keep g m cap' (fun j => Z ((i + 1 + j) % n))) (fun v _ => m - (intOf v).toNat)
            case atStart => exact ⟨0, by omega, rfl, hT2⟩
            case round =>
              obtain ⟨j, hj, rfl, hTr⟩ := hrel
              clear hT2 c6
              by_cases hlt : j < m
              · obtain ⟨t, ht⟩ : ∃ t, t = (i + 1 + j) % n := ⟨_, rfl⟩
                have htn : t < n := by rw [ht]; exact Nat.mod_lt _ (by omega)
                have hjn : j < n := by have := HM.out; omega
                have it : ((i : Int) + 1 + j) % n = t := by
                  have := mod_nat (i + 1 + j) n t ht
                  rwa [show ((i + 1 + j : Nat) : Int) = (i : Int) + 1 + j by omega] at this
                have y0 : ∀ m os, (grow (wr.drewN m) os).cell? ⟨g, j * 3, none⟩ = some (.int .u64 (Z t).1) := fun m os => by rw [ht]; exact ((hTr.quiet m os).succ.at0 hlt).1
                have y1 : ∀ m os, (grow (wr.drewN m) os).cell? ⟨g, j * 3 + 1, none⟩ = some (.int .u64 (Z t).2.1) := fun m os => by rw [ht]; exact ((hTr.quiet m os).succ.at0 hlt).2.1
                have y2 : ∀ m os, (grow (wr.drewN m) os).cell? ⟨g, j * 3 + 2, none⟩ = some (.int .u64 (Z t).2.2) := fun m os => by rw [ht]; exact ((hTr.quiet m os).succ.at0 hlt).2.2
                have e2 := eq3_refl (Z t)
                clear ht
                have c6 := fun m os => (placeV_cells (hTr.quiet m os).place).2.2.2.2.2.2.1
                obtain ⟨x0, x1, x2⟩ := hTr.ws.quiet htn
                go_wp2
                refine wp_region_quiet_grown follows (by kernel_rfl) ?_
                repeat (go_big_quiet_step ((go_at_call 11; refine Ext.grown (sameWords_any (Z t) (Z t) _))))
                refine wpQuiet_nil ?_
                intro _ hw'
                obtain ⟨⟨nq, osq⟩, hw''⟩ := hw'
                subst hw''
                go_wp2
                go_roundw
                case rel => exact ⟨j + 1, by omega, by go_num, hTr.quiet _ _⟩
                case measure => simp [intOf]; omega
              · go_wp2
                go_ret
                exact ⟨rfl, hTr.below⟩
        · have hgp : ((gi : Int) == (p1 : Int)) = false := by simpa using (fun h : (gi : Int) = p1 => hp (by omega))
          have hpeq : eq3 (Z pe) (Z p1) = true := by
            rw [HPE.out, pE, if_neg (fun h => h.elim (fun h => HSS.out (by rw [HS1.out]; exact h)) (fun h => hp (by rw [HP1.out]; exact h))), ← HP1.out]; exact eq3_refl _
          clear hp
          go_upto_if 88 with fail
          go_cut [14] (fun v wx => v = .int .i64 ri ∧ wx = wo)
          case first =>
            by_cases hgi : gi < i
            · have hrr : ri = i - 1 := by rw [HRI.out, if_pos hgi]
              go_wp2
              go_meet
              exact ⟨by rw [hrr]; congr 1; omega, rfl⟩
            · have hrr : ri = i := by rw [HRI.out, if_neg hgi]
              go_wp2
              go_meet
              exact ⟨by rw [hrr], rfl⟩
          case rest =>
            obtain ⟨rfl, rfl⟩ := hcut
            go_wp2_with (first | (go_at_call_of 10 (Value.int .i64 (n : Int)); refine (minInt_eq _ _ (m : Int) _ (by rw [HM.out]; split <;> omega)).mono ?_; rintro e w9 ⟨rfl, hw9⟩; rw [hw9]; clear hw9) | (go_at_call 10; refine (minInt_eq _ _ (km : Int) _ (by rw [HKM.out]; split <;> omega)).mono ?_; rintro e w9 ⟨rfl, hw9⟩; rw [hw9]; clear hw9))
            have c0 := fun m os => (placeV_cells (hT.quiet m os).place).1
            have c1 := fun m os => (placeV_cells (hT.quiet m os).place).2.1
            have c2 := fun m os => (placeV_cells (hT.quiet m os).place).2.2.1
            have c7 := fun m os => (placeV_cells (hT.quiet m os).place).2.2.2.2.2.2.2
            obtain ⟨x0, x1, x2⟩ := hT.ws.quiet hi
            refine wp_region_quiet_grown follows (by kernel_rfl) ?_
            repeat (go_big_quiet_step ((go_at_call 11; refine Ext.grown (sameWords_any (Z i) (Z i) _))))
            refine wpQuiet_nil ?_
            intro _ hw'
            obtain ⟨⟨nq, osq⟩, hw''⟩ := hw'
            subst hw''
            have hT1 := hT.quiet nq osq
            clear c0 c1 c2 c7 x0 x1 x2 hT
            generalize grow (wc.drewN nq) osq = W1 at hT1 ⊢
            go_wp2
            have c3 := fun m os => (placeV_cells (hT1.quiet m os).place).2.2.2.1
            have c4 := fun m os => (placeV_cells (hT1.quiet m os).place).2.2.2.2.1
            have c5 := fun m os => (placeV_cells (hT1.quiet m os).place).2.2.2.2.2.1
            obtain ⟨x0, x1, x2⟩ := hT1.ws.quiet hp1n
            refine wp_region_quiet_grown follows (by kernel_rfl) ?_
            repeat (go_big_quiet_step ((go_at_call 11; refine Ext.grown (sameWords_any (Z pe) (Z p1) _))))
            refine wpQuiet_nil ?_
            intro _ hw'
            obtain ⟨⟨nq, osq⟩, hw''⟩ := hw'
            subst hw''
            have hT2 := hT1.quiet nq osq
            clear c3 c4 c5 x0 x1 x2 hT1
            generalize grow (W1.drewN nq) osq = W2 at hT2 ⊢
            have c6 := (placeV_cells hT2.place).2.2.2.2.2.2.1
            go_wp2
            go_loopw [20] (fun v wr => ∃ j : Nat, j ≤ m ∧ v = .int .i64 j ∧ TS w' wr b off n Z w3.heap.size i (Z pe) keep g m cap' (fun j => Z ((i + 1 + j) % n))) (fun v _ => m - (intOf v).toNat)
            case atStart => exact ⟨0, by omega, rfl, hT2⟩
            case round =>
              obtain ⟨j, hj, rfl, hTr⟩ := hrel
              clear hT2 c6
              by_cases hlt : j < m
              · obtain ⟨t, ht⟩ : ∃ t, t = (i + 1 + j) % n := ⟨_, rfl⟩
                have htn : t < n := by rw [ht]; exact Nat.mod_lt _ (by omega)
                have hjn : j < n := by have := HM.out; omega
                have it : ((i : Int) + 1 + j) % n = t := by
                  have := mod_nat (i + 1 + j) n t ht
                  rwa [show ((i + 1 + j : Nat) : Int) = (i : Int) + 1 + j by omega] at this
                have y0 : ∀ m os, (grow (wr.drewN m) os).cell? ⟨g, j * 3, none⟩ = some (.int .u64 (Z t).1) := fun m os => by rw [ht]; exact ((hTr.quiet m os).succ.at0 hlt).1
                have y1 : ∀ m os, (grow (wr.drewN m) os).cell? ⟨g, j * 3 + 1, none⟩ = some (.int .u64 (Z t).2.1) := fun m os => by rw [ht]; exact ((hTr.quiet m os).succ.at0 hlt).2.1
                have y2 : ∀ m os, (grow (wr.drewN m) os).cell? ⟨g, j * 3 + 2, none⟩ = some (.int .u64 (Z t).2.2) := fun m os => by rw [ht]; exact ((hTr.quiet m os).succ.at0 hlt).2.2
                have e2 := eq3_refl (Z t)
                clear ht
                have c6 := fun m os => (placeV_cells (hTr.quiet m os).place).2.2.2.2.2.2.1
                obtain ⟨x0, x1, x2⟩ := hTr.ws.quiet htn
                go_wp2
                refine wp_region_quiet_grown follows (by kernel_rfl) ?_
                repeat (go_big_quiet_step ((go_at_call 11; refine Ext.grown (sameWords_any (Z t) (Z t) _))))
                refine wpQuiet_nil ?_
                intro _ hw'
                obtain ⟨⟨nq, osq⟩, hw''⟩ := hw'
                subst hw''
                go_wp2
                go_roundw
                case rel => exact ⟨j + 1, by omega, by go_num, hTr.quiet _ _⟩
                case measure => simp [intOf]; omega
              · go_wp2
                go_ret
                exact ⟨rfl, hTr.below⟩

end Go.Proofs.Qxb6618031a
