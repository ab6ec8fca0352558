import Derived.Test.Qxb6618031aEarly3
import Derived.Deep.RegionWith
import Derived.Deep.DeepCutAuto
set_option linter.unusedVariables false
namespace Go.Proofs.Qxb6618031a
open Go.RowKit Go.Sort

set_option maxHeartbeats 2000000 in
theorem zzpast_any (bp : Nat) (x y : W3) (keep : Int) (bs m : Nat) (fs : Nat → W3) (bi n : Nat) (Z : Nat → W3) (w : World) (hP : w.heap[bp]? = some (placeObj x y bs m keep)) (hS : Buf3 w bs m fs) (hI : Buf3 w bi n Z) (hm : m ≤ 100000) (hn : n ≤ 100000) :
    Calls Try.prog 12 #[.pointer (some ⟨bp, 0, none⟩), .slice (some ⟨bi, 0, none⟩) n n] w fun e w' => PastPost w w' (pastL x y fs m Z n) e := by
  have h := past_any bp x y keep bs m fs bi n Z w hP hS hI hm hn
  generalize pastL x y fs m Z n = l at h ⊢
  go_enter Try.func12, Try.ntmps12
  go_wp2_with fail
  refine h.mono ?_
  rintro e w1 ⟨hB, h1⟩
  rcases h1 with ⟨hl, rfl⟩ | ⟨hl, g, cap, rfl, hg, hR⟩
  · go_wp2
    go_ret
    exact ⟨hB, Or.inl ⟨hl, rfl⟩⟩
  · go_wp2
    go_ret
    exact ⟨hB, Or.inr ⟨hl, g, cap, rfl, hg, hR⟩⟩

/-- Facts of a world behind SettledPlace. -/
structure FS (w W : World) (b off n : Nat) (Z : Nat → W3) (bp i p : Nat) (keep : Nat) (bs m bi : Nat) : Prop where
  ws : Row3 W b off n Z
  place : W.heap[bp]? = some (placeObj (Z i) (Z p) bs m keep)
  succ : Buf3 W bs m (fun j => Z ((i + 1 + j) % n))
  ids : Buf3 W bi n Z
  ext : Ext w W
theorem FS.more {w W W' : World} {b off n : Nat} {Z : Nat → W3} {bp i p keep bs m bi : Nat} (h : FS w W b off n Z bp i p keep bs m bi) (hE : Ext W W') : FS w W' b off n Z bp i p keep bs m bi :=
  ⟨h.ws.ext hE, hE.keeps h.place, h.succ.ext hE, h.ids.ext hE, h.ext.trans hE⟩
theorem FS.quiet {w W : World} {b off n : Nat} {Z : Nat → W3} {bp i p keep bs m bi : Nat} (h : FS w W b off n Z bp i p keep bs m bi) (t : Nat) (os : Array Obj) : FS w (grow (W.drewN t) os) b off n Z bp i p keep bs m bi :=
  h.more ⟨t, os, rfl⟩

/-- Facts of a world behind ZZPast. -/
structure GS (w W : World) (b off n : Nat) (Z : Nat → W3) (g L : Nat) (f : Nat → W3) : Prop where
  ws : Row3 W b off n Z
  got : Row3 W g 0 L f
  below : Below w.heap.size w W
theorem GS.quiet {w W : World} {b off n : Nat} {Z : Nat → W3} {g L : Nat} {f : Nat → W3} (h : GS w W b off n Z g L f) (t : Nat) (os : Array Obj) : GS w (grow (W.drewN t) os) b off n Z g L f := by
  have hE : Ext W (grow (W.drewN t) os) := ⟨t, os, rfl⟩
  exact ⟨h.ws.ext hE, h.got.ext hE, h.below.trans (hE.below.mono h.below.size)⟩
theorem Row3.of_below {w W : World} {b off n : Nat} {Z : Nat → W3} (h : Row3 w b off n Z) (hB : Below w.heap.size w W) : Row3 W b off n Z := by
  refine ⟨Nat.lt_of_lt_of_le h.1 hB.size, fun i hi => ?_⟩
  obtain ⟨c0, c1, c2⟩ := h.2 i hi
  exact ⟨(hB.cell (p := ⟨b, _, none⟩) h.1).trans c0, (hB.cell (p := ⟨b, _, none⟩) h.1).trans c1, (hB.cell (p := ⟨b, _, none⟩) h.1).trans c2⟩

set_option maxRecDepth 100000 in
set_option maxHeartbeats 4000000 in
theorem fn3_main (b off n cap : Nat) (Z : Nat → W3) (i keep m : Nat) (w : World) (hR : Row3 w b off n Z) (hn1 : 1 ≤ n) (hn : n ≤ 4096) (hi : i < n) (hkm : keep ≤ 9223372036854775807)
    (hm : m = min keep n) :
    Calls Try.prog 3 #[.slice (some ⟨b, off, none⟩) n cap, .int .i64 i, .int .i64 keep] w fun e w' => e = .returned (.bool true) ∧ Below w.heap.size w w' := by
  have hmn : m ≤ n := by omega
  have hmi : (if n < keep then (n : Int) else keep) = (m : Int) := by rw [hm]; split <;> omega
  have hmk : (m : Int) = if (keep : Int) < n then (keep : Int) else n := by rw [hm]; split <;> omega
  have HM : Hid _ := hm
  have HMI : Hid _ := hmi
  have HMK : Hid _ := hmk
  clear hm hmi hmk
  cases hasc : ascB Z n with
  | false =>
    go_enter Try.func3, Try.ntmps3
    go_wp2_with (first | (go_at_call 6; refine (bytes6_ok _ _ _ _ _ _ (by omega)).mono ?_; rintro e w' ⟨rfl, rfl⟩) | (go_at_call 7; refine (asc_any b off n cap Z _ (by omega) hR).mono ?_; rintro e w1 ⟨rfl, hE1⟩))
    go_ret
    exact ⟨rfl, hE1.below⟩
  | true =>
    obtain ⟨p, hp⟩ : ∃ p, p = (i + n - 1) % n := ⟨_, rfl⟩
    have hlaw := past_ring (ascB_spec hasc) (i := i) (k := m) (p := p) hi hmn hp
    obtain ⟨f, hf⟩ : ∃ f : Nat → W3, f = fun t => Z ((i + 1 + m + t) % n) := ⟨_, rfl⟩
    rw [← hf] at hlaw
    have HLAW : Hid _ := hlaw
    have HF : Hid _ := hf
    have hpn : p < n := by rw [hp]; exact Nat.mod_lt _ (by omega)
    have ip : ((i : Int) + n - 1) % n = p := by
      have := mod_nat (i + n - 1) n p hp
      rwa [show ((i + n - 1 : Nat) : Int) = (i : Int) + n - 1 by omega] at this
    have e0 := eq3_refl (Z i)
    have e1 := eq3_refl (Z p)
    clear hlaw hf hp
    go_enter Try.func3, Try.ntmps3
    go_wp2_with (first | (go_at_call 6; refine (bytes6_ok _ _ _ _ _ _ (by omega)).mono ?_; rintro e w' ⟨rfl, rfl⟩) | (go_at_call 7; refine (asc_any b off n cap Z _ (by omega) hR).mono ?_; rintro e w1 ⟨rfl, hE1⟩))
    refine (toIDs_any b off n cap Z _ (by omega) (hR.ext hE1)).mono ?_
    rintro e w2 ⟨rfl, hE2, hB2⟩
    go_wp2_with fail
    refine (settled_any _ n Z _ (by omega) hB2 i keep m p hi (by omega) HMI.out (by omega) hpn ip).mono ?_
    rintro e w3 ⟨bs, rfl, hE3, hbs3, hS3⟩
    unfold placeVal
    go_upto_region 12 with fail
    have hEa : Ext w3 (w3.alloc (placeObj (Z i) (Z p) bs m keep)) := (Ext.refl w3).alloc _
    have hFS : FS w' (w3.alloc (placeObj (Z i) (Z p) bs m keep)) b off n Z w3.heap.size i p keep bs m w1.heap.size :=
      ⟨((hR.ext hE1).ext (hE2.trans hE3)).ext hEa, by show (w3.heap.push _)[w3.heap.size]? = _; simp, hS3.ext hEa, (hB2.ext hE3).ext hEa, ((hE1.trans hE2).trans hE3).trans hEa⟩
    have hbp : w'.heap.size ≤ w3.heap.size := ((hE1.trans hE2).trans hE3).size
    change Code.wp _ _ _ _ (w3.alloc (placeObj (Z i) (Z p) bs m keep))
    generalize w3.alloc (placeObj (Z i) (Z p) bs m keep) = W at hFS ⊢
    clear hE1 hE2 hE3 hB2 hS3 hEa
    go_wp2_with ((go_at_call 10; refine (minInt_eq _ _ (m : Int) _ HMK.out).mono ?_; rintro e w9 ⟨rfl, hw9⟩; rw [hw9]; clear hw9))
    have c0 := fun m os => (place_cells (hFS.quiet m os).place).1
    have c1 := fun m os => (place_cells (hFS.quiet m os).place).2.1
    have c2 := fun m os => (place_cells (hFS.quiet m os).place).2.2.1
    have c7 := fun m os => (place_cells (hFS.quiet m os).place).2.2.2.2.2.2.2.1
    obtain ⟨x0, x1, x2⟩ := hFS.ws.quiet hi
    refine wp_region_quiet_grown follows (by kernel_rfl) ?_
    repeat (go_big_quiet_step ((go_at_call 11; refine Ext.grown (sameWords_any (Z i) (Z i) _))))
    refine wpQuiet_nil ?_
    intro _ hw'
    obtain ⟨⟨nq, osq⟩, hw''⟩ := hw'
    subst hw''
    have hF1 := hFS.quiet nq osq
    clear c0 c1 c2 c7 x0 x1 x2 hFS
    generalize grow (W.drewN nq) osq = W1 at hF1 ⊢
    go_wp2
    have c3 := fun m os => (place_cells (hF1.quiet m os).place).2.2.2.1
    have c4 := fun m os => (place_cells (hF1.quiet m os).place).2.2.2.2.1
    have c5 := fun m os => (place_cells (hF1.quiet m os).place).2.2.2.2.2.1
    obtain ⟨x0, x1, x2⟩ := hF1.ws.quiet hpn
    refine wp_region_quiet_grown follows (by kernel_rfl) ?_
    repeat (go_big_quiet_step ((go_at_call 11; refine Ext.grown (sameWords_any (Z p) (Z p) _))))
    refine wpQuiet_nil ?_
    intro _ hw'
    obtain ⟨⟨nq, osq⟩, hw''⟩ := hw'
    subst hw''
    have hF2 := hF1.quiet nq osq
    clear c3 c4 c5 x0 x1 x2 hF1
    generalize grow (W1.drewN nq) osq = W2 at hF2 ⊢
    have c6 := (place_cells hF2.place).2.2.2.2.2.2.1
    go_wp2
    go_loopw [11] (fun v wr => ∃ j : Nat, j ≤ m ∧ v = .int .i64 j ∧ FS w' wr b off n Z w3.heap.size i p keep bs m w1.heap.size) (fun v _ => m - (intOf v).toNat)
    case atStart => exact ⟨0, by omega, rfl, hF2⟩
    case round =>
      obtain ⟨j, hj, rfl, hFr⟩ := hrel
      clear hF2 c6
      by_cases hlt : j < m
      · obtain ⟨t, ht⟩ : ∃ t, t = (i + 1 + j) % n := ⟨_, rfl⟩
        have htn : t < n := by rw [ht]; exact Nat.mod_lt _ (by omega)
        have it : ((i : Int) + 1 + j) % n = t := by
          have := mod_nat (i + 1 + j) n t ht
          rwa [show ((i + 1 + j : Nat) : Int) = (i : Int) + 1 + j by omega] at this
        have y0 : ∀ m os, (grow (wr.drewN m) os).cell? ⟨bs, j * 3, none⟩ = some (.int .u64 (Z t).1) := fun m os => by rw [ht]; exact ((hFr.quiet m os).succ.cell hlt).1
        have y1 : ∀ m os, (grow (wr.drewN m) os).cell? ⟨bs, j * 3 + 1, none⟩ = some (.int .u64 (Z t).2.1) := fun m os => by rw [ht]; exact ((hFr.quiet m os).succ.cell hlt).2.1
        have y2 : ∀ m os, (grow (wr.drewN m) os).cell? ⟨bs, j * 3 + 2, none⟩ = some (.int .u64 (Z t).2.2) := fun m os => by rw [ht]; exact ((hFr.quiet m os).succ.cell hlt).2.2
        have e2 := eq3_refl (Z t)
        clear ht
        have c6 := fun m os => (place_cells (hFr.quiet m os).place).2.2.2.2.2.2.1
        obtain ⟨x0, x1, x2⟩ := hFr.ws.quiet htn
        go_wp2
        refine wp_region_quiet_grown follows (by kernel_rfl) ?_
        repeat (go_big_quiet_step ((go_at_call 11; refine Ext.grown (sameWords_any (Z t) (Z t) _))))
        refine wpQuiet_nil ?_
        intro _ hw'
        obtain ⟨⟨nq, osq⟩, hw''⟩ := hw'
        subst hw''
        go_wp2
        go_roundw
        case rel => exact ⟨j + 1, by omega, by go_num, hFr.quiet _ _⟩
        case measure => simp [intOf]; omega
      · go_wp2_with fail
        refine (zzpast_any w3.heap.size (Z i) (Z p) keep bs m _ w1.heap.size n Z wr hFr.place hFr.succ hFr.ids (by omega) (by omega)).mono ?_
        rw [HLAW.out]
        rintro e w4 ⟨hB4, h4⟩
        have hBw : Below w'.heap.size w' w4 := hFr.ext.below.trans (hB4.mono hFr.ext.size)
        have hws : Row3 w4 b off n Z := hFr.ws.of_below hB4
        rcases h4 with ⟨hl, rfl⟩ | ⟨hl, g, cap', rfl, hg, hG⟩
        · have hnk : ¬ m < n - 2 := by
            intro h
            have := congrArg List.length hl
            simp [want3, h] at this
            omega
          clear hl
          go_wp2
          go_loopw [14] (fun v wx => v = .int .i64 0 ∧ wx = w4) (fun v _ => 0)
          case atStart => exact ⟨rfl, rfl⟩
          case round =>
            obtain ⟨rfl, rfl⟩ := hrel
            go_wp2
            go_ret
            exact ⟨rfl, hBw⟩
        · have hnk : m < n - 2 := by
            apply Classical.byContradiction
            intro h
            exact hl (by simp [want3, h])
          obtain ⟨L, hL⟩ : ∃ L, L = n - 2 - m := ⟨_, rfl⟩
          have hlen : ((List.range (want3 n m)).map f).length = L := by simp [want3, hnk, hL]
          rw [hlen] at hG ⊢
          have hG2 : Row3 w4 g 0 L f := hG.congr fun i hi => by
            show ((List.range (want3 n m)).map f)[i]! = f i
            rw [getElem!_pos _ i (by omega)]
            simp
          have hGS : GS w' w4 b off n Z g L f := ⟨hws, hG2, hBw⟩
          have HL : Hid _ := hL
          have hLi : (n : Int) - 2 - m = L := by omega
          clear hL hl hlen hG hG2 hB4 hFr
          go_wp2
          go_loopw [14] (fun v wx => ∃ j : Nat, j ≤ L ∧ v = .int .i64 j ∧ GS w' wx b off n Z g L f) (fun v _ => L - (intOf v).toNat)
          case atStart => exact ⟨0, by omega, rfl, hGS⟩
          case round =>
            obtain ⟨j2, hj2, rfl, hGr⟩ := hrel
            clear hGS
            by_cases hlt2 : j2 < L
            · obtain ⟨t, ht⟩ : ∃ t, t = (i + 1 + m + j2) % n := ⟨_, rfl⟩
              have htn : t < n := by rw [ht]; exact Nat.mod_lt _ (by omega)
              have it : ((i : Int) + 1 + m + j2) % n = t := by
                have := mod_nat (i + 1 + m + j2) n t ht
                rwa [show ((i + 1 + m + j2 : Nat) : Int) = (i : Int) + 1 + m + j2 by omega] at this
              have hfz : f j2 = Z t := by rw [HF.out, ht]
              have y0 : ∀ m os, (grow (wr.drewN m) os).cell? ⟨g, j2 * 3, none⟩ = some (.int .u64 (Z t).1) := fun m os => by rw [← hfz]; exact ((hGr.quiet m os).got.at0 hlt2).1
              have y1 : ∀ m os, (grow (wr.drewN m) os).cell? ⟨g, j2 * 3 + 1, none⟩ = some (.int .u64 (Z t).2.1) := fun m os => by rw [← hfz]; exact ((hGr.quiet m os).got.at0 hlt2).2.1
              have y2 : ∀ m os, (grow (wr.drewN m) os).cell? ⟨g, j2 * 3 + 2, none⟩ = some (.int .u64 (Z t).2.2) := fun m os => by rw [← hfz]; exact ((hGr.quiet m os).got.at0 hlt2).2.2
              have e2 := eq3_refl (Z t)
              obtain ⟨x0, x1, x2⟩ := hGr.ws.quiet htn
              clear ht hfz
              go_wp2
              refine wp_region_quiet_grown follows (by kernel_rfl) ?_
              repeat (go_big_quiet_step ((go_at_call 11; refine Ext.grown (sameWords_any (Z t) (Z t) _))))
              refine wpQuiet_nil ?_
              intro _ hw'
              obtain ⟨⟨nq, osq⟩, hw''⟩ := hw'
              subst hw''
              go_wp2
              go_roundw
              case rel => exact ⟨j2 + 1, by omega, by go_num, hGr.quiet _ _⟩
              case measure => simp [intOf]; omega
            · go_wp2
              go_ret
              exact ⟨rfl, hGr.below⟩

end Go.Proofs.Qxb6618031a
