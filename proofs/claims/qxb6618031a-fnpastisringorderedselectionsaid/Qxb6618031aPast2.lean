import Derived.Test.Qxb6618031aPast
set_option linter.unusedVariables false
namespace Go.Proofs.Qxb6618031a
open Go.RowKit Go.Sort Go.Shelf Go.Lib

def pbox (bp : Nat) : Obj := .cells #[.pointer (some ⟨bp, 0, none⟩)] 37 (0, 0)

/-- what past has read off, in a world behind its own stores -/
structure PS (w W : World) (bp : Nat) (x y : W3) (keep : Int) (bs m : Nat) (fs : Nat → W3) (bi n : Nat) (Z : Nat → W3) : Prop where
  below : Below w.heap.size w W
  pb : W.heap[w.heap.size]? = some (pbox bp)
  place : W.heap[bp]? = some (placeObj x y bs m keep)
  succ : Buf3 W bs m fs
  ids : Buf3 W bi n Z
theorem PS.ext {w W W' : World} {bp : Nat} {x y : W3} {keep : Int} {bs m : Nat} {fs : Nat → W3} {bi n : Nat} {Z : Nat → W3} (h : PS w W bp x y keep bs m fs bi n Z) (hE : Ext W W') : PS w W' bp x y keep bs m fs bi n Z :=
  ⟨h.below.trans (hE.below.mono h.below.size), hE.keeps h.pb, hE.keeps h.place, h.succ.ext hE, h.ids.ext hE⟩
/-- a world in which nothing of the first has turned but a block that is none of these -/
theorem PS.grown {w W W' : World} {bp : Nat} {x y : W3} {keep : Int} {bs m : Nat} {fs : Nat → W3} {bi n : Nat} {Z : Nat → W3} {r : Option Nat} (h : PS w W bp x y keep bs m fs bi n Z) (hg : W.grownBy W' r) (hr : ∀ k, r = some k → w.heap.size < k) (hbp : bp < w.heap.size) (hbs : bs < w.heap.size) (hbi : bi < w.heap.size) :
    PS w W' bp x y keep bs m fs bi n Z := by
  have hs := h.below.size
  have hsz : w.heap.size < W.heap.size := (Array.getElem?_eq_some_iff.1 h.pb).1
  have blk : ∀ k, k ≤ w.heap.size → W'.heap[k]? = W.heap[k]? := fun k hk => hg.block k (by omega) (fun e => by have := hr k e.symm; omega)
  refine ⟨⟨hg.os.trans h.below.os, hg.tape.trans h.below.tape, hg.output.trans h.below.output, Nat.le_trans hs hg.size, fun k hk => (blk k (by omega)).trans (h.below.block k hk)⟩, (blk _ (Nat.le_refl _)).trans h.pb, (blk _ (by omega)).trans h.place, ?_, ?_⟩
  · obtain ⟨c, hc, r⟩ := h.succ
    exact ⟨c, (blk _ (by omega)).trans hc, r⟩
  · obtain ⟨c, hc, r⟩ := h.ids
    exact ⟨c, (blk _ (by omega)).trans hc, r⟩
theorem pbox_cell {w : World} {b bp : Nat} (h : w.heap[b]? = some (pbox bp)) : w.cell? ⟨b, 0, none⟩ = some (.pointer (some ⟨bp, 0, none⟩)) := by simp [World.cell?, h, pbox]

theorem own_ext {w w' : World} {base e size n : Nat} {v : Value} {xs : List Value} (h : w.ownsRow base e size v n xs) (hE : Ext w w') : w'.ownsRow base e size v n xs := by
  obtain ⟨h1, h2⟩ := h
  refine ⟨h1, ?_⟩
  rcases h2 with h2 | ⟨g, cap, cur, hv, hg, hh, r⟩
  · exact Or.inl h2
  · exact Or.inr ⟨g, cap, cur, hv, hg, hE.keeps hh, r⟩
theorem own_block_ge {w : World} {base e size n : Nat} {v : Value} {xs : List Value} (h : w.ownsRow base e size v n xs) : ∀ k, v.ownBlock = some k → base ≤ k := by
  intro k hk
  obtain ⟨_, h2⟩ := h
  rcases h2 with ⟨rfl, _⟩ | ⟨g, cap, cur, rfl, hg, _⟩
  · simp [Value.ownBlock] at hk
  · simp [Value.ownBlock] at hk
    omega
theorem news_cells (V : World) (z : W3) : ∀ j u, (enc3 z)[j]? = some u → (V.alloc (box z)).cell? ((⟨V.heap.size, 0, none⟩ : Addr).add j) = some u := by
  intro j u hu
  have hb : (V.alloc (box z)).heap[V.heap.size]? = some (box z) := by show (V.heap.push _)[V.heap.size]? = _; simp
  obtain ⟨c0, c1, c2⟩ := boxed hb
  have hj : j < 3 := by
    have := (List.getElem?_eq_some_iff.1 hu).1
    simpa [enc3] using this
  match j, hj with
  | 0, _ => rw [← hu]; exact c0
  | 1, _ => rw [← hu]; exact c1
  | 2, _ => rw [← hu]; exact c2
theorem enc3_one (z : W3) : ∀ u ∈ enc3 z, u.oneCell' = true := by
  intro u hu
  simp [enc3] at hu
  rcases hu with rfl | rfl | rfl <;> rfl

/-- what past hands back -/
def PastPost (w w' : World) (l : List W3) (e : Ending) : Prop :=
  Below w.heap.size w w' ∧ ((l = [] ∧ e = .returned (.slice none 0 0)) ∨ (l ≠ [] ∧ ∃ g cap, e = .returned (.slice (some ⟨g, 0, none⟩) l.length cap) ∧ w.heap.size ≤ g ∧ Row3 w' g 0 l.length (fun i => l[i]!)))

/-- the list that past hands back -/
def pastL (x y : W3) (fs : Nat → W3) (m : Nat) (Z : Nat → W3) (n : Nat) : List W3 :=
  comp (fun i => (sortL x (filt x y fs m Z n))[i]!) (filt x y fs m Z n).length

theorem comp_pos (Z : Nat → W3) : ∀ j, 0 < j → 0 < (comp Z j).length
  | 0, h => by omega
  | 1, _ => by simp [comp]
  | j + 2, _ => by
    have := comp_pos Z (j + 1) (by omega)
    rw [comp]
    split
    · simp
    · exact this
theorem BufF.row {w : World} {g n : Nat} {f : Nat → W3} (h : BufF w g n f) : Row3 w g 0 n f := by
  refine ⟨h.lt, fun i hi => ?_⟩
  simpa using h.cell hi
set_option maxHeartbeats 400000 in
theorem compact_nil (w : World) : Calls Try.prog 29 #[.slice none 0 0] w fun e w' => e = .returned (.slice none 0 0) ∧ w' = w := by
  go_enter Try.func29, Try.ntmps29
  go_wp2
  go_ret
  exact ⟨rfl, rfl⟩
theorem sort_nil (fv : Value) (w : World) : Calls Try.prog 27 #[.slice none 0 0, fv] w fun e w' => e = .returned (.tuple #[]) ∧ w' = w := by
  have h := AnyF.slices_SortFunc_none { Try.sortID with } none 0 fv w
  exact h

set_option maxHeartbeats 4000000 in
theorem past_any (bp : Nat) (x y : W3) (keep : Int) (bs m : Nat) (fs : Nat → W3) (bi n : Nat) (Z : Nat → W3) (w : World) (hP : w.heap[bp]? = some (placeObj x y bs m keep)) (hS : Buf3 w bs m fs) (hI : Buf3 w bi n Z) (hm : m ≤ 100000) (hn : n ≤ 100000) :
    Calls Try.prog 22 #[.pointer (some ⟨bp, 0, none⟩), .slice (some ⟨bi, 0, none⟩) n n] w fun e w' => PastPost w w' (pastL x y fs m Z n) e := by
  obtain ⟨i0, hi, hz, hs, hb⟩ := info_parts info30
  have hbp : bp < w.heap.size := (Array.getElem?_eq_some_iff.1 hP).1
  have hbs := hS.lt
  have hbi := hI.lt
  have hE0 : Ext w (w.alloc (pbox bp)) := (Ext.refl w).alloc _
  have hPS : PS w (w.alloc (pbox bp)) bp x y keep bs m fs bi n Z :=
    ⟨hE0.below, by show (w.heap.push _)[w.heap.size]? = _; simp, hE0.keeps hP, hS.ext hE0, hI.ext hE0⟩
  have hown0 : (w.alloc (pbox bp)).ownsRow (w.heap.size + 1) 30 3 (.slice none 0 0) 0 [] := World.ownsRow_nil _ _ _ _
  clear hP hS hI
  go_enter Try.func22, Try.ntmps22
  go_upto_region 1 with fail
  change Code.wp _ _ _ _ (w.alloc (pbox bp))
  generalize w.alloc (pbox bp) = W0 at hE0 hPS hown0 ⊢
  go_wp2
  go_loopw [10, 5] (fun v10 v5 wr => ∃ k : Nat, k ≤ n ∧ v10 = .int .i64 k ∧ wr.ownsRow (w.heap.size + 1) 30 3 v5 (filt x y fs m Z k).length (flatL (filt x y fs m Z k)) ∧ (filt x y fs m Z k = [] → v5 = .slice none 0 0) ∧ PS w wr bp x y keep bs m fs bi n Z) (fun v10 _ _ => n - (intOf v10).toNat)
  case atStart => exact ⟨0, by omega, rfl, by simpa [filt, flatL] using hown0, fun _ => rfl, hPS⟩
  case round =>
    obtain ⟨k, hk, rfl, hown, hnil, hps⟩ := hrel
    have HO : Hid _ := hown
    have HNIL : Hid _ := hnil
    clear hown hnil hown0 hPS
    by_cases hlt : k < n
    · obtain ⟨a0, a1, a2⟩ := hps.ids.cell hlt
      go_upto_region 5 with fail
      change Code.wp _ _ _ _ (wr.alloc (box (Z k)))
      have hEv : Ext wr (wr.alloc (box (Z k))) := (Ext.refl wr).alloc _
      have hzb : (wr.alloc (box (Z k))).heap[wr.heap.size]? = some (box (Z k)) := by show (wr.heap.push _)[wr.heap.size]? = _; simp
      have hpsv := hps.ext hEv
      clear a0 a1 a2
      generalize wr.alloc (box (Z k)) = V at hEv hzb hpsv ⊢
      have z0 := fun m os => (boxed (Ext.keeps (w' := grow (V.drewN m) os) ⟨m, os, rfl⟩ hzb)).1
      have z1 := fun m os => (boxed (Ext.keeps (w' := grow (V.drewN m) os) ⟨m, os, rfl⟩ hzb)).2.1
      have z2 := fun m os => (boxed (Ext.keeps (w' := grow (V.drewN m) os) ⟨m, os, rfl⟩ hzb)).2.2
      have q0 := fun t os => pbox_cell (hpsv.ext (W' := grow (V.drewN t) os) ⟨t, os, rfl⟩).pb
      have p0 := fun t os => (place_cells (hpsv.ext (W' := grow (V.drewN t) os) ⟨t, os, rfl⟩).place).1
      have p1 := fun t os => (place_cells (hpsv.ext (W' := grow (V.drewN t) os) ⟨t, os, rfl⟩).place).2.1
      have p2 := fun t os => (place_cells (hpsv.ext (W' := grow (V.drewN t) os) ⟨t, os, rfl⟩).place).2.2.1
      have p3 := fun t os => (place_cells (hpsv.ext (W' := grow (V.drewN t) os) ⟨t, os, rfl⟩).place).2.2.2.1
      have p4 := fun t os => (place_cells (hpsv.ext (W' := grow (V.drewN t) os) ⟨t, os, rfl⟩).place).2.2.2.2.1
      have p5 := fun t os => (place_cells (hpsv.ext (W' := grow (V.drewN t) os) ⟨t, os, rfl⟩).place).2.2.2.2.2.1
      have p6 := fun t os => (place_cells (hpsv.ext (W' := grow (V.drewN t) os) ⟨t, os, rfl⟩).place).2.2.2.2.2.2.1
      rcases Bool.eq_false_or_eq_true (btwB (Z k) x y) with hb | hb
      rotate_left
      · have HK : Hid (keepP x y fs m (Z k) = false) := by show keepP x y fs m (Z k) = false; simp [keepP, hb]
        have HB := fun V => between_any (Z k) x y V
        have HC := fun V (hV : Buf3 V bs m fs) => contains_any bs m m fs (Z k) V (by omega) hV
        rw [hb] at HB
        clear hb
        refine wp_region_quiet_grown follows (by kernel_rfl) ?_
        repeat (go_big_quiet_step (first | (go_at_call 23; refine Ext.grown (HB _)) | (go_at_call 26; refine Ext.grown (HC _ (hpsv.ext ⟨_, _, rfl⟩).succ))))
        refine wpQuiet_nil ?_
        intro _ hw'
        obtain ⟨⟨nq, osq⟩, hw''⟩ := hw'
        subst hw''
        have hps2 := hpsv.ext (W' := grow (V.drewN nq) osq) ⟨nq, osq, rfl⟩
        have ho2 := own_ext (own_ext HO.out hEv) (w' := grow (V.drewN nq) osq) ⟨nq, osq, rfl⟩
        have HO2 : Hid _ := ho2
        clear ho2 p0 p1 p2 p3 p4 p5 p6 z0 z1 z2 q0
        generalize grow (V.drewN nq) osq = V2 at hps2 HO2 ⊢
        go_wp2
        go_roundw
        case rel =>
          have hf : filt x y fs m Z (k + 1) = filt x y fs m Z k := by rw [filt_succ, HK.out]; simp
          exact ⟨k + 1, by omega, by go_num, by rw [hf]; exact HO2.out, by rw [hf]; exact HNIL.out, hps2⟩
        case measure => simp [intOf]; omega
      rcases Bool.eq_false_or_eq_true (containsB fs m (Z k)) with hc | hc
      · have HK : Hid (keepP x y fs m (Z k) = false) := by show keepP x y fs m (Z k) = false; simp [keepP, hb, hc]
        have HB := fun V => between_any (Z k) x y V
        have HC := fun V (hV : Buf3 V bs m fs) => contains_any bs m m fs (Z k) V (by omega) hV
        rw [hb] at HB
        rw [hc] at HC
        clear hb hc
        refine wp_region_quiet_grown follows (by kernel_rfl) ?_
        repeat (go_big_quiet_step (first | (go_at_call 23; refine Ext.grown (HB _)) | (go_at_call 26; refine Ext.grown (HC _ (hpsv.ext ⟨_, _, rfl⟩).succ))))
        refine wpQuiet_nil ?_
        intro _ hw'
        obtain ⟨⟨nq, osq⟩, hw''⟩ := hw'
        subst hw''
        have hps2 := hpsv.ext (W' := grow (V.drewN nq) osq) ⟨nq, osq, rfl⟩
        have ho2 := own_ext (own_ext HO.out hEv) (w' := grow (V.drewN nq) osq) ⟨nq, osq, rfl⟩
        have HO2 : Hid _ := ho2
        clear ho2 p0 p1 p2 p3 p4 p5 p6 z0 z1 z2 q0
        generalize grow (V.drewN nq) osq = V2 at hps2 HO2 ⊢
        go_wp2
        go_roundw
        case rel =>
          have hf : filt x y fs m Z (k + 1) = filt x y fs m Z k := by rw [filt_succ, HK.out]; simp
          exact ⟨k + 1, by omega, by go_num, by rw [hf]; exact HO2.out, by rw [hf]; exact HNIL.out, hps2⟩
        case measure => simp [intOf]; omega
      · have HK : Hid (keepP x y fs m (Z k) = true) := by show keepP x y fs m (Z k) = true; simp [keepP, hb, hc]
        have HB := fun V => between_any (Z k) x y V
        have HC := fun V (hV : Buf3 V bs m fs) => contains_any bs m m fs (Z k) V (by omega) hV
        rw [hb] at HB
        rw [hc] at HC
        clear hb hc
        refine wp_region_quiet_grown follows (by kernel_rfl) ?_
        repeat (go_big_quiet_step (first | (go_at_call 23; refine Ext.grown (HB _)) | (go_at_call 26; refine Ext.grown (HC _ (hpsv.ext ⟨_, _, rfl⟩).succ))))
        refine wpQuiet_nil ?_
        intro _ hw'
        obtain ⟨⟨nq, osq⟩, hw''⟩ := hw'
        subst hw''
        have hps2 := hpsv.ext (W' := grow (V.drewN nq) osq) ⟨nq, osq, rfl⟩
        have ho2 := own_ext (own_ext HO.out hEv) (w' := grow (V.drewN nq) osq) ⟨nq, osq, rfl⟩
        have hzb2 := Ext.keeps (w' := grow (V.drewN nq) osq) ⟨nq, osq, rfl⟩ hzb
        clear p0 p1 p2 p3 p4 p5 p6 z0 z1 z2 q0 hzb
        generalize grow (V.drewN nq) osq = V2 at hps2 ho2 hzb2 ⊢
        obtain ⟨z0, z1, z2⟩ := boxed hzb2
        have hfl := filt_len x y fs m Z k
        have hbase : w.heap.size + 1 ≤ (V2.alloc (box (Z k))).heap.size := by
          have := (Array.getElem?_eq_some_iff.1 hps2.pb).1
          simp; omega
        have hnews := news_cells V2 (Z k)
        have hone := enc3_one (Z k)
        have ho3 := ho2.alloc (box (Z k))
        go_wp2_with (at_builtin; refine wpList_append_own _ rfl (.tmp 33) (.tmp 35) 25 rfl (w.heap.size + 1) 30 i0 _ 3 24 Try.underlying25 hi hz hs hb rfl (by decide) _ _ _ rfl ho3 ⟨V2.heap.size, 0, none⟩ 1 1 (enc3 (Z k)) rfl rfl hnews hone (by unfold maxLen; omega) (by omega) hbase ?_)
        intro v' w1 hown1 hgrow hnil1
        have hps3 : PS w w1 bp x y keep bs m fs bi n Z := (hps2.ext ((Ext.refl V2).alloc (box (Z k)))).grown hgrow (fun j hj => own_block_ge ho2 j hj) hbp hbs hbi
        have hnn : v' ≠ .slice none 0 0 := fun e => by
          have := hnil1
          simp [e] at this
        have HO1 : Hid _ := hown1
        have HNN : Hid _ := hnn
        clear hown1 hgrow hnil1 hnn ho2 ho3 hnews hone hps2 hzb2 z0 z1 z2
        go_wp2
        go_roundw
        case rel =>
          have hf : filt x y fs m Z (k + 1) = filt x y fs m Z k ++ [Z k] := by rw [filt_succ, HK.out]; simp
          refine ⟨k + 1, by omega, by go_num, ?_, ?_, hps3⟩
          · rw [hf, List.length_append, flatL_append]
            have e : flatL [Z k] = enc3 (Z k) := by simp [flatL]
            rw [e]
            exact HO1.out
          · rw [hf]
            intro e
            simp at e
        case measure => simp [intOf]; omega
    · obtain rfl : k = n := by omega
      have hmf : ∀ (fn : Fn) (first cap : Array Value) (w : World), (Instr.makeFunc fn first cap).run Try.prog w = .ok (.func fn first cap) w := fun _ _ _ _ => rfl
      by_cases hF : filt x y fs m Z k = []
      · have hv := HNIL.out hF
        subst hv
        have hL : Hid (pastL x y fs m Z k = []) := by show pastL x y fs m Z k = []; simp [pastL, hF, comp]
        clear hF
        go_wp2_with (first | (go_at_call 27; refine (sort_nil _ _).mono ?_; rintro e w9 ⟨rfl, hw9⟩; rw [hw9]; clear hw9) | (go_at_call 29; refine (compact_nil _).mono ?_; rintro e w9 ⟨rfl, hw9⟩; rw [hw9]; clear hw9))
        go_ret
        exact ⟨hps.below, Or.inl ⟨hL.out, rfl⟩⟩
      · obtain ⟨g, cap, hv, hg, hcap, hcm, hB⟩ := own_BufL HO.out hF
        subst hv
        have hfl := filt_len x y fs m Z k
        have hpos : 0 < (filt x y fs m Z k).length := List.length_pos_iff.2 hF
        have hsl : (sortL x (filt x y fs m Z k)).length = (filt x y fs m Z k).length := by simp [sortL]
        unfold maxLen at hcm
        have hsort := sort_any x w.heap.size bp g cap (filt x y fs m Z k) wr hB (by omega) (pbox_cell hps.pb) (Array.getElem?_eq_some_iff.1 hps.pb).1 (by have := hps.below.size; omega) (by omega) (by omega)
          ⟨(place_cells hps.place).1, (place_cells hps.place).2.1, (place_cells hps.place).2.2.1⟩
        have hpl : Hid (pastL x y fs m Z k = comp (fun i => (sortL x (filt x y fs m Z k))[i]!) (filt x y fs m Z k).length) := rfl
        obtain ⟨N, hN⟩ : ∃ N, N = (filt x y fs m Z k).length := ⟨_, rfl⟩
        rw [← hN] at hsort hfl hpos hcap hsl hpl ⊢
        have HN : Hid _ := hN
        have HSL : Hid _ := hsl
        clear hB hN hsl hF
        go_wp2_with (go_at_call 27; refine hsort.mono ?_; rintro e w2 ⟨rfl, hB2, hg2⟩)
        have hB3 : BufF w2 g N (fun i => (sortL x (filt x y fs m Z k))[i]!) := by
          have := hB2.fn
          rw [HSL.out] at this
          exact this
        refine (compact_any g cap N _ w2 hB3 (by omega) hpos hcap (by omega)).mono ?_
        rintro e w3 ⟨rfl, hB4, hg4⟩
        rw [← hpl.out] at hB4 ⊢
        have hbel : Below w.heap.size w w3 := (hps.below.grown hg2 hps.below.size (fun j hj => by cases hj; omega)).grown hg4 (Nat.le_trans hps.below.size hg2.size) (fun j hj => by cases hj; omega)
        have hne : pastL x y fs m Z k ≠ [] := by
          rw [hpl.out]
          exact List.length_pos_iff.1 (comp_pos _ N hpos)
        have HR : Hid (PastPost w w3 (pastL x y fs m Z k) (.returned (.slice (some ⟨g, 0, none⟩) (pastL x y fs m Z k).length cap))) := ⟨hbel, Or.inr ⟨hne, g, cap, rfl, by omega, hB4.row⟩⟩
        clear hB4 hg4 hbel hne hsort hB2 hg2 hB3
        go_wp2
        go_ret
        exact HR.out
end Go.Proofs.Qxb6618031a
