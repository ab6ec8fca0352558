import Derived.Test.Qxb6618031aSuccFrom
set_option linter.unusedVariables false
namespace Go.Proofs.Qxb6618031a
open Go.RowKit Go.Sort

def placeV (x y : W3) (sv : Value) (keep : Int) : Obj :=
  .cells #[.int .u64 x.1, .int .u64 x.2.1, .int .u64 x.2.2, .int .u64 y.1, .int .u64 y.2.1, .int .u64 y.2.2, sv, .int .i64 keep] 32 (0, 0)
def box30 (x : W3) : Obj := .cells #[.int .u64 x.1, .int .u64 x.2.1, .int .u64 x.2.2] 30 (0, 0)

/-- Facts of a world inside Left. -/
structure LS (w W : World) (bp : Nat) (x y : W3) (keep : Nat) (bs m : Nat) (fs : Nat → W3) (bg : Nat) (fg : Nat → W3) (gone pr : W3) : Prop where
  place : W.heap[bp]? = some (placeObj x y bs m keep)
  succ : Buf3 W bs m fs
  arg : Buf3 W bg m fg
  b1 : W.heap[w.heap.size]? = some (box30 gone)
  b2 : W.heap[w.heap.size + 1]? = some (box30 pr)
  grown : w.grownBy W (some bp)

theorem grownBy_ext {a b c : World} {r : Option Nat} (h : a.grownBy b r) (k : Ext b c) : a.grownBy c r :=
  ⟨k.below.os.trans h.os, k.below.tape.trans h.tape, k.below.output.trans h.output, Nat.le_trans h.size k.size, fun i hi hr => (k.block i (Nat.lt_of_lt_of_le hi h.size)).trans (h.block i hi hr)⟩
theorem LS.ext {w W W' : World} {bp : Nat} {x y : W3} {keep bs m : Nat} {fs : Nat → W3} {bg : Nat} {fg : Nat → W3} {gone pr : W3} (h : LS w W bp x y keep bs m fs bg fg gone pr) (hE : Ext W W') : LS w W' bp x y keep bs m fs bg fg gone pr := by
  have lt : ∀ k o, W.heap[k]? = some o → W'.heap[k]? = some o := fun k o hk => (hE.block k (Array.getElem?_eq_some_iff.1 hk).1).trans hk
  exact ⟨lt _ _ h.place, h.succ.ext hE, h.arg.ext hE, lt _ _ h.b1, lt _ _ h.b2, grownBy_ext h.grown hE⟩
theorem box_cells {w : World} {b : Nat} {x : W3} (h : w.heap[b]? = some (box30 x)) :
    w.cell? ⟨b, 0, none⟩ = some (.int .u64 x.1) ∧ w.cell? ⟨b, 1, none⟩ = some (.int .u64 x.2.1) ∧ w.cell? ⟨b, 2, none⟩ = some (.int .u64 x.2.2) := by
  simp [World.cell?, h, box30]
/-- all cells that Left reads, in one world -/
theorem LS.cells {w W : World} {bp : Nat} {x y : W3} {keep bs m : Nat} {fs : Nat → W3} {bg : Nat} {fg : Nat → W3} {gone pr : W3} (h : LS w W bp x y keep bs m fs bg fg gone pr) (hm : 0 < m) :
    (W.cell? ⟨bp, 0, none⟩ = some (.int .u64 x.1) ∧ W.cell? ⟨bp, 1, none⟩ = some (.int .u64 x.2.1) ∧ W.cell? ⟨bp, 2, none⟩ = some (.int .u64 x.2.2)) ∧
    (W.cell? ⟨bp, 3, none⟩ = some (.int .u64 y.1) ∧ W.cell? ⟨bp, 4, none⟩ = some (.int .u64 y.2.1) ∧ W.cell? ⟨bp, 5, none⟩ = some (.int .u64 y.2.2)) ∧
    (W.cell? ⟨w.heap.size, 0, none⟩ = some (.int .u64 gone.1) ∧ W.cell? ⟨w.heap.size, 1, none⟩ = some (.int .u64 gone.2.1) ∧ W.cell? ⟨w.heap.size, 2, none⟩ = some (.int .u64 gone.2.2)) ∧
    (W.cell? ⟨w.heap.size + 1, 0, none⟩ = some (.int .u64 pr.1) ∧ W.cell? ⟨w.heap.size + 1, 1, none⟩ = some (.int .u64 pr.2.1) ∧ W.cell? ⟨w.heap.size + 1, 2, none⟩ = some (.int .u64 pr.2.2)) ∧
    (W.cell? ⟨bg, 0, none⟩ = some (.int .u64 (fg 0).1) ∧ W.cell? ⟨bg, 1, none⟩ = some (.int .u64 (fg 0).2.1) ∧ W.cell? ⟨bg, 2, none⟩ = some (.int .u64 (fg 0).2.2)) ∧
    W.cell? ⟨bp, 6, none⟩ = some (.slice (some ⟨bs, 0, none⟩) m m) ∧ ∀ o, W.frozen? ⟨bp, o, none⟩ = false := by
  obtain ⟨q0, q1, q2, q3, q4, q5, q6, q7, q8⟩ := place_cells h.place
  have ha := h.arg.cell (i := 0) hm
  rw [Nat.zero_mul, Nat.zero_add, Nat.zero_add] at ha
  exact ⟨⟨q0, q1, q2⟩, ⟨q3, q4, q5⟩, box_cells h.b1, box_cells h.b2, ha, q6, q8⟩
theorem LS.quiet {w W : World} {bp : Nat} {x y : W3} {keep bs m : Nat} {fs : Nat → W3} {bg : Nat} {fg : Nat → W3} {gone pr : W3} (h : LS w W bp x y keep bs m fs bg fg gone pr) (hm : 0 < m) :
    ∀ n os, LS w (grow (W.drewN n) os) bp x y keep bs m fs bg fg gone pr := fun n os => h.ext ⟨n, os, rfl⟩

theorem LS.setPred {w W : World} {bp : Nat} {x y : W3} {keep bs m : Nat} {fs : Nat → W3} {bg : Nat} {fg : Nat → W3} {gone pr : W3} (h : LS w W bp x y keep bs m fs bg fg gone pr) (hbp : bp < w.heap.size) (hbs : bp ≠ bs) (hbg : bp ≠ bg) :
    LS w (((W.setCell ⟨bp, 3, none⟩ (.int .u64 pr.1)).setCell ⟨bp, 4, none⟩ (.int .u64 pr.2.1)).setCell ⟨bp, 5, none⟩ (.int .u64 pr.2.2)) bp x pr keep bs m fs bg fg gone pr := by
  have oth : ∀ k, k ≠ bp → (((W.setCell ⟨bp, 3, none⟩ (.int .u64 pr.1)).setCell ⟨bp, 4, none⟩ (.int .u64 pr.2.1)).setCell ⟨bp, 5, none⟩ (.int .u64 pr.2.2)).heap[k]? = W.heap[k]? := fun k hk => by
    rw [Below.heap_setCell _ _ _ _ hk, Below.heap_setCell _ _ _ _ hk, Below.heap_setCell _ _ _ _ hk]
  refine ⟨?_, ((h.succ.other (Ne.symm hbs) _).other (Ne.symm hbs) _).other (Ne.symm hbs) _, ((h.arg.other (Ne.symm hbg) _).other (Ne.symm hbg) _).other (Ne.symm hbg) _, (oth _ (by omega)).trans h.b1, (oth _ (by omega)).trans h.b2, ?_⟩
  · rw [heap_setCell_cells (heap_setCell_cells (heap_setCell_cells h.place))]
    rfl
  · exact ⟨h.grown.os, h.grown.tape, h.grown.output, by simpa using h.grown.size, fun k hk hr => (oth k (fun e => hr (by rw [e]))).trans (h.grown.block k hk hr)⟩
theorem LS.setSucc {w W W4 : World} {bp : Nat} {x y : W3} {keep bs m : Nat} {fs : Nat → W3} {bg : Nat} {fg : Nat → W3} {gone pr : W3} (h : LS w W bp x y keep bs m fs bg fg gone pr) (hb : Below W.heap.size W W4) (hbp : bp < w.heap.size) (g L cap : Nat) (hg : W.heap.size ≤ g) (hr : Row3 W4 g 0 L fg) :
    (W4.setCell ⟨bp, 6, none⟩ (.slice (some ⟨g, 0, none⟩) L cap)).heap[bp]? = some (placeV x y (.slice (some ⟨g, 0, none⟩) L cap) keep) ∧ w.grownBy (W4.setCell ⟨bp, 6, none⟩ (.slice (some ⟨g, 0, none⟩) L cap)) (some bp) ∧ g ≠ bp ∧
    Row3 (W4.setCell ⟨bp, 6, none⟩ (.slice (some ⟨g, 0, none⟩) L cap)) g 0 L fg := by
  have hsz := h.grown.size
  have hp4 : W4.heap[bp]? = some (placeObj x y bs m keep) := (hb.block bp (by omega)).trans h.place
  refine ⟨?_, ?_, by omega, ?_⟩
  · rw [heap_setCell_cells hp4]
    rfl
  · refine ⟨hb.os.trans h.grown.os, hb.tape.trans h.grown.tape, hb.output.trans h.grown.output, ?_, fun k hk hr => ?_⟩
    · have := hb.size
      simp only [World.size_setCell]
      omega
    · rw [Below.heap_setCell _ _ _ _ (fun e => hr (by rw [e])), hb.block k (by omega)]
      exact h.grown.block k hk hr
  · refine ⟨by simpa using hr.1, fun i hi => ?_⟩
    have ne : ∀ o, (⟨bp, 6, none⟩ : Addr) ≠ ⟨g, o, none⟩ := fun o e => by
      have : bp = g := by simpa using congrArg Addr.block e
      omega
    rw [World.cell?_setCell_other _ _ _ _ (ne _), World.cell?_setCell_other _ _ _ _ (ne _), World.cell?_setCell_other _ _ _ _ (ne _)]
    exact hr.2 i hi

/-- What Left leaves: the place's block with a new predecessor and some slice; that slice's row; nothing else of old memory has turned. -/
def LeftPost (w w' : World) (bp : Nat) (x y : W3) (keep L : Nat) (f : Nat → W3) : Prop :=
  ∃ g cap', w'.heap[bp]? = some (placeV x y (.slice (some ⟨g, 0, none⟩) L cap') keep) ∧ w.grownBy w' (some bp) ∧ g ≠ bp ∧ Row3 w' g 0 L f

set_option maxHeartbeats 2000000 in
theorem left_tt (bp : Nat) (x y : W3) (keep bs m : Nat) (fs : Nat → W3) (bg : Nat) (fg : Nat → W3) (gone pr : W3) (j0 L : Nat) (w : World) (hP : w.heap[bp]? = some (placeObj x y bs m keep)) (hS : Buf3 w bs m fs) (hG : Buf3 w bg m fg)
    (hm : m ≤ 1000000) (hm0 : 0 < m) (hk0 : 0 < keep) (hbs : bp ≠ bs) (hbg : bp ≠ bg)
    (hA : eq3 y gone = true) (hB : eq3 (fs 0) gone = true) (hpg : eq3 pr gone = false)
    (hj : j0 ≤ m) (hno : ∀ j, j < j0 → fg j ≠ x) (hyes : j0 < m → fg j0 = x) (hL : L = min (if j0 < m then j0 + 1 else m) keep) :
    Calls Try.prog 14 #[.pointer (some ⟨bp, 0, none⟩), .agg #[.int .u64 gone.1, .int .u64 gone.2.1, .int .u64 gone.2.2], .agg #[.int .u64 pr.1, .int .u64 pr.2.1, .int .u64 pr.2.2], .slice (some ⟨bg, 0, none⟩) m m] w
      fun e w' => e = .returned (.tuple #[]) ∧ LeftPost w w' bp x pr keep L fg := by
  have HL : Hid _ := hL
  clear hL
  have HN : Hid _ := hno
  have HY : Hid _ := hyes
  clear hno hyes
  have h30 := eql30
  have g30 := guard30
  have hbp : bp < w.heap.size := (Array.getElem?_eq_some_iff.1 hP).1
  have hWs : LS w ((w.alloc (box30 gone)).alloc (box30 pr)) bp x y keep bs m fs bg fg gone pr := by
    have hE : Ext w ((w.alloc (box30 gone)).alloc (box30 pr)) := ((Ext.refl w).alloc _).alloc _
    refine ⟨(hE.block _ hbp).trans hP, hS.ext hE, hG.ext hE, ?_, ?_, grownBy_ext ⟨rfl, rfl, rfl, Nat.le_refl _, fun _ _ _ => rfl⟩ hE⟩
    · show ((w.heap.push _).push _)[w.heap.size]? = _
      simp only [Array.getElem?_push, Array.size_push]
      rw [if_neg (by omega), if_pos trivial]
    · show ((w.heap.push _).push _)[w.heap.size + 1]? = _
      simp only [Array.getElem?_push, Array.size_push]
      rw [if_pos trivial]
  go_enter Try.func14, Try.ntmps14
  go_wp2
  rw [show (w.alloc (Obj.cells #[.int .u64 gone.1, .int .u64 gone.2.1, .int .u64 gone.2.2] 30)).alloc (.cells #[.int .u64 pr.1, .int .u64 pr.2.1, .int .u64 pr.2.2] 30) = (w.alloc (box30 gone)).alloc (box30 pr) from rfl]
  generalize (w.alloc (box30 gone)).alloc (box30 pr) = W at hWs ⊢
  obtain ⟨⟨a0, a1, a2⟩, ⟨b0, b1, b2⟩, ⟨c0, c1, c2⟩, ⟨d0, d1, d2⟩, ⟨e0, e1, e2⟩, f6, fz⟩ := hWs.cells hm0
  go_quiet (fail)
  obtain ⟨n1, hn1⟩ : ∃ n1 : Nat, n1 = nq := ⟨_, rfl⟩
  subst hn1
  go_wp2
  go_quiet (fail)
  go_wp2
  have hW2 := (hWs.ext ((Ext.refl W).drewN (n1 + nq))).setPred hbp hbs hbg
  clear hWs a0 a1 a2 b0 b1 b2 c0 c1 c2 d0 d1 d2 e0 e1 e2 f6 fz
  generalize ((((W.drewN (n1 + nq)).setCell ⟨bp, 3, none⟩ (.int .u64 pr.1)).setCell ⟨bp, 4, none⟩ (.int .u64 pr.2.1)).setCell ⟨bp, 5, none⟩ (.int .u64 pr.2.2)) = W2 at hW2 ⊢
  have K := fun n os => (hW2.quiet hm0 n os).cells hm0
  have k0 := fun n os => (K n os).2.2.1.1
  have k1 := fun n os => (K n os).2.2.1.2.1
  have k2 := fun n os => (K n os).2.2.1.2.2
  clear K
  refine wp_region_quiet_grown follows (by kernel_rfl) ?_
  repeat (go_big_quiet_step ((go_at_call 24; refine Ext.grown (successor_any bp x pr bs m keep fs _ hm0 (hW2.quiet hm0 _ _).place (hW2.quiet hm0 _ _).succ))))
  refine wpQuiet_nil ?_
  intro _ hw'
  obtain ⟨⟨nq, osq⟩, hw''⟩ := hw'
  subst hw''
  have hW3 := hW2.quiet hm0 nq osq
  clear hW2 k0 k1 k2
  generalize grow (W2.drewN nq) osq = W3 at hW3 ⊢
  go_wp2_with (go_at_call 25; refine (succFrom_any bp x pr bs m keep bg m fg j0 L _ hW3.place hW3.arg hm hm0 hk0 hj HN.out HY.out HL.out).mono ?_)
  rintro e W4 ⟨g, cap', rfl, hB4, hg4, hr4⟩
  have hp4 : W4.heap[bp]? = some (placeObj x pr bs m keep) := (hB4.block bp (by have := hW3.grown.size; omega)).trans hW3.place
  obtain ⟨_, _, _, _, _, _, q6, _, q8⟩ := place_cells hp4
  have hfin := hW3.setSucc hB4 hbp g L cap' hg4 hr4
  clear hp4 hW3 hr4
  go_wp2
  go_end0
  exact ⟨rfl, g, cap', hfin⟩

set_option maxHeartbeats 2000000 in
theorem left_tf (bp : Nat) (x y : W3) (keep bs m : Nat) (fs : Nat → W3) (bg : Nat) (fg : Nat → W3) (gone pr : W3) (w : World) (hP : w.heap[bp]? = some (placeObj x y bs m keep)) (hS : Buf3 w bs m fs) (hG : Buf3 w bg m fg)
    (hm : m ≤ 1000000) (hm0 : 0 < m) (hk0 : 0 < keep) (hbs : bp ≠ bs) (hbg : bp ≠ bg)
    (hA : eq3 y gone = true) (hB : eq3 (fs 0) gone = false) (hpx : eq3 pr x = false) (hpg : eq3 pr gone = false) :
    Calls Try.prog 14 #[.pointer (some ⟨bp, 0, none⟩), .agg #[.int .u64 gone.1, .int .u64 gone.2.1, .int .u64 gone.2.2], .agg #[.int .u64 pr.1, .int .u64 pr.2.1, .int .u64 pr.2.2], .slice (some ⟨bg, 0, none⟩) m m] w
      fun e w' => e = .returned (.tuple #[]) ∧ LeftPost w w' bp x pr keep m fs := by
  have h30 := eql30
  have g30 := guard30
  have hbp : bp < w.heap.size := (Array.getElem?_eq_some_iff.1 hP).1
  have hWs : LS w ((w.alloc (box30 gone)).alloc (box30 pr)) bp x y keep bs m fs bg fg gone pr := by
    have hE : Ext w ((w.alloc (box30 gone)).alloc (box30 pr)) := ((Ext.refl w).alloc _).alloc _
    refine ⟨(hE.block _ hbp).trans hP, hS.ext hE, hG.ext hE, ?_, ?_, grownBy_ext ⟨rfl, rfl, rfl, Nat.le_refl _, fun _ _ _ => rfl⟩ hE⟩
    · show ((w.heap.push _).push _)[w.heap.size]? = _
      simp only [Array.getElem?_push, Array.size_push]
      rw [if_neg (by omega), if_pos trivial]
    · show ((w.heap.push _).push _)[w.heap.size + 1]? = _
      simp only [Array.getElem?_push, Array.size_push]
      rw [if_pos trivial]
  go_enter Try.func14, Try.ntmps14
  go_wp2
  rw [show (w.alloc (Obj.cells #[.int .u64 gone.1, .int .u64 gone.2.1, .int .u64 gone.2.2] 30)).alloc (.cells #[.int .u64 pr.1, .int .u64 pr.2.1, .int .u64 pr.2.2] 30) = (w.alloc (box30 gone)).alloc (box30 pr) from rfl]
  generalize (w.alloc (box30 gone)).alloc (box30 pr) = W at hWs ⊢
  obtain ⟨⟨a0, a1, a2⟩, ⟨b0, b1, b2⟩, ⟨c0, c1, c2⟩, ⟨d0, d1, d2⟩, ⟨e0, e1, e2⟩, f6, fz⟩ := hWs.cells hm0
  go_quiet (fail)
  obtain ⟨n1, hn1⟩ : ∃ n1 : Nat, n1 = nq := ⟨_, rfl⟩
  subst hn1
  go_wp2
  go_quiet (fail)
  go_wp2
  have hW2 := (hWs.ext ((Ext.refl W).drewN (n1 + nq))).setPred hbp hbs hbg
  clear hWs a0 a1 a2 b0 b1 b2 c0 c1 c2 d0 d1 d2 e0 e1 e2 f6 fz
  generalize ((((W.drewN (n1 + nq)).setCell ⟨bp, 3, none⟩ (.int .u64 pr.1)).setCell ⟨bp, 4, none⟩ (.int .u64 pr.2.1)).setCell ⟨bp, 5, none⟩ (.int .u64 pr.2.2)) = W2 at hW2 ⊢
  have K := fun n os => (hW2.quiet hm0 n os).cells hm0
  have k0 := fun n os => (K n os).2.2.1.1
  have k1 := fun n os => (K n os).2.2.1.2.1
  have k2 := fun n os => (K n os).2.2.1.2.2
  have k3 := fun n os => (K n os).2.2.2.1.1
  have k4 := fun n os => (K n os).2.2.2.1.2.1
  have k5 := fun n os => (K n os).2.2.2.1.2.2
  have k6 := fun n os => (K n os).1.1
  have k7 := fun n os => (K n os).1.2.1
  have k8 := fun n os => (K n os).1.2.2
  clear K
  refine wp_region_quiet_grown follows (by kernel_rfl) ?_
  repeat (go_big_quiet_step ((go_at_call 24; refine Ext.grown (successor_any bp x pr bs m keep fs _ hm0 (hW2.quiet hm0 _ _).place (hW2.quiet hm0 _ _).succ))))
  refine wpQuiet_nil ?_
  intro _ hw'
  obtain ⟨⟨nq, osq⟩, hw''⟩ := hw'
  subst hw''
  have hW3 := hW2.quiet hm0 nq osq
  clear hW2 k0 k1 k2 k3 k4 k5 k6 k7 k8
  generalize grow (W2.drewN nq) osq = W3 at hW3 ⊢
  go_wp2
  go_end0
  exact ⟨rfl, bs, m, hW3.place, hW3.grown, Ne.symm hbs, hW3.succ.row⟩

set_option maxHeartbeats 2000000 in
theorem left_ft (bp : Nat) (x y : W3) (keep bs m : Nat) (fs : Nat → W3) (bg : Nat) (fg : Nat → W3) (gone pr : W3) (j0 L : Nat) (w : World) (hP : w.heap[bp]? = some (placeObj x y bs m keep)) (hS : Buf3 w bs m fs) (hG : Buf3 w bg m fg)
    (hm : m ≤ 1000000) (hm0 : 0 < m) (hk0 : 0 < keep) (hbs : bp ≠ bs) (hbg : bp ≠ bg)
    (hA : eq3 y gone = false) (hF : eq3 (fg 0) x = false) (hB : eq3 (fs 0) gone = true)
    (hj : j0 ≤ m) (hno : ∀ j, j < j0 → fg j ≠ x) (hyes : j0 < m → fg j0 = x) (hL : L = min (if j0 < m then j0 + 1 else m) keep) :
    Calls Try.prog 14 #[.pointer (some ⟨bp, 0, none⟩), .agg #[.int .u64 gone.1, .int .u64 gone.2.1, .int .u64 gone.2.2], .agg #[.int .u64 pr.1, .int .u64 pr.2.1, .int .u64 pr.2.2], .slice (some ⟨bg, 0, none⟩) m m] w
      fun e w' => e = .returned (.tuple #[]) ∧ LeftPost w w' bp x y keep L fg := by
  have HL : Hid _ := hL
  clear hL
  have HN : Hid _ := hno
  have HY : Hid _ := hyes
  clear hno hyes
  have h30 := eql30
  have g30 := guard30
  have hbp : bp < w.heap.size := (Array.getElem?_eq_some_iff.1 hP).1
  have hWs : LS w ((w.alloc (box30 gone)).alloc (box30 pr)) bp x y keep bs m fs bg fg gone pr := by
    have hE : Ext w ((w.alloc (box30 gone)).alloc (box30 pr)) := ((Ext.refl w).alloc _).alloc _
    refine ⟨(hE.block _ hbp).trans hP, hS.ext hE, hG.ext hE, ?_, ?_, grownBy_ext ⟨rfl, rfl, rfl, Nat.le_refl _, fun _ _ _ => rfl⟩ hE⟩
    · show ((w.heap.push _).push _)[w.heap.size]? = _
      simp only [Array.getElem?_push, Array.size_push]
      rw [if_neg (by omega), if_pos trivial]
    · show ((w.heap.push _).push _)[w.heap.size + 1]? = _
      simp only [Array.getElem?_push, Array.size_push]
      rw [if_pos trivial]
  go_enter Try.func14, Try.ntmps14
  go_wp2
  rw [show (w.alloc (Obj.cells #[.int .u64 gone.1, .int .u64 gone.2.1, .int .u64 gone.2.2] 30)).alloc (.cells #[.int .u64 pr.1, .int .u64 pr.2.1, .int .u64 pr.2.2] 30) = (w.alloc (box30 gone)).alloc (box30 pr) from rfl]
  generalize (w.alloc (box30 gone)).alloc (box30 pr) = W at hWs ⊢
  obtain ⟨⟨a0, a1, a2⟩, ⟨b0, b1, b2⟩, ⟨c0, c1, c2⟩, ⟨d0, d1, d2⟩, ⟨e0, e1, e2⟩, f6, fz⟩ := hWs.cells hm0
  go_quiet (fail)
  obtain ⟨n1, hn1⟩ : ∃ n1 : Nat, n1 = nq := ⟨_, rfl⟩
  subst hn1
  go_wp2
  go_quiet (fail)
  go_wp2
  try rw [World.drewN_drewN]
  have hW2 := hWs.ext ((Ext.refl W).drewN (n1 + nq))
  clear hWs a0 a1 a2 b0 b1 b2 c0 c1 c2 d0 d1 d2 e0 e1 e2 f6 fz
  generalize W.drewN (n1 + nq) = W2 at hW2 ⊢
  have K := fun n os => (hW2.quiet hm0 n os).cells hm0
  have k0 := fun n os => (K n os).2.2.1.1
  have k1 := fun n os => (K n os).2.2.1.2.1
  have k2 := fun n os => (K n os).2.2.1.2.2
  clear K
  refine wp_region_quiet_grown follows (by kernel_rfl) ?_
  repeat (go_big_quiet_step ((go_at_call 24; refine Ext.grown (successor_any bp x y bs m keep fs _ hm0 (hW2.quiet hm0 _ _).place (hW2.quiet hm0 _ _).succ))))
  refine wpQuiet_nil ?_
  intro _ hw'
  obtain ⟨⟨nq, osq⟩, hw''⟩ := hw'
  subst hw''
  have hW3 := hW2.quiet hm0 nq osq
  clear hW2 k0 k1 k2
  generalize grow (W2.drewN nq) osq = W3 at hW3 ⊢
  go_wp2_with (go_at_call 25; refine (succFrom_any bp x y bs m keep bg m fg j0 L _ hW3.place hW3.arg hm hm0 hk0 hj HN.out HY.out HL.out).mono ?_)
  rintro e W4 ⟨g, cap', rfl, hB4, hg4, hr4⟩
  have hp4 : W4.heap[bp]? = some (placeObj x y bs m keep) := (hB4.block bp (by have := hW3.grown.size; omega)).trans hW3.place
  obtain ⟨_, _, _, _, _, _, q6, _, q8⟩ := place_cells hp4
  have hfin := hW3.setSucc hB4 hbp g L cap' hg4 hr4
  clear hp4 hW3 hr4
  go_wp2
  go_end0
  exact ⟨rfl, g, cap', hfin⟩

set_option maxHeartbeats 2000000 in
theorem left_ff (bp : Nat) (x y : W3) (keep bs m : Nat) (fs : Nat → W3) (bg : Nat) (fg : Nat → W3) (gone pr : W3) (w : World) (hP : w.heap[bp]? = some (placeObj x y bs m keep)) (hS : Buf3 w bs m fs) (hG : Buf3 w bg m fg)
    (hm : m ≤ 1000000) (hm0 : 0 < m) (hk0 : 0 < keep) (hbs : bp ≠ bs) (hbg : bp ≠ bg)
    (hA : eq3 y gone = false) (hF : eq3 (fg 0) x = false) (hB : eq3 (fs 0) gone = false) (hpx : eq3 pr x = false) :
    Calls Try.prog 14 #[.pointer (some ⟨bp, 0, none⟩), .agg #[.int .u64 gone.1, .int .u64 gone.2.1, .int .u64 gone.2.2], .agg #[.int .u64 pr.1, .int .u64 pr.2.1, .int .u64 pr.2.2], .slice (some ⟨bg, 0, none⟩) m m] w
      fun e w' => e = .returned (.tuple #[]) ∧ LeftPost w w' bp x y keep m fs := by
  have h30 := eql30
  have g30 := guard30
  have hbp : bp < w.heap.size := (Array.getElem?_eq_some_iff.1 hP).1
  have hWs : LS w ((w.alloc (box30 gone)).alloc (box30 pr)) bp x y keep bs m fs bg fg gone pr := by
    have hE : Ext w ((w.alloc (box30 gone)).alloc (box30 pr)) := ((Ext.refl w).alloc _).alloc _
    refine ⟨(hE.block _ hbp).trans hP, hS.ext hE, hG.ext hE, ?_, ?_, grownBy_ext ⟨rfl, rfl, rfl, Nat.le_refl _, fun _ _ _ => rfl⟩ hE⟩
    · show ((w.heap.push _).push _)[w.heap.size]? = _
      simp only [Array.getElem?_push, Array.size_push]
      rw [if_neg (by omega), if_pos trivial]
    · show ((w.heap.push _).push _)[w.heap.size + 1]? = _
      simp only [Array.getElem?_push, Array.size_push]
      rw [if_pos trivial]
  go_enter Try.func14, Try.ntmps14
  go_wp2
  rw [show (w.alloc (Obj.cells #[.int .u64 gone.1, .int .u64 gone.2.1, .int .u64 gone.2.2] 30)).alloc (.cells #[.int .u64 pr.1, .int .u64 pr.2.1, .int .u64 pr.2.2] 30) = (w.alloc (box30 gone)).alloc (box30 pr) from rfl]
  generalize (w.alloc (box30 gone)).alloc (box30 pr) = W at hWs ⊢
  obtain ⟨⟨a0, a1, a2⟩, ⟨b0, b1, b2⟩, ⟨c0, c1, c2⟩, ⟨d0, d1, d2⟩, ⟨e0, e1, e2⟩, f6, fz⟩ := hWs.cells hm0
  go_quiet (fail)
  obtain ⟨n1, hn1⟩ : ∃ n1 : Nat, n1 = nq := ⟨_, rfl⟩
  subst hn1
  go_wp2
  go_quiet (fail)
  go_wp2
  try rw [World.drewN_drewN]
  have hW2 := hWs.ext ((Ext.refl W).drewN (n1 + nq))
  clear hWs a0 a1 a2 b0 b1 b2 c0 c1 c2 d0 d1 d2 e0 e1 e2 f6 fz
  generalize W.drewN (n1 + nq) = W2 at hW2 ⊢
  have K := fun n os => (hW2.quiet hm0 n os).cells hm0
  have k0 := fun n os => (K n os).2.2.1.1
  have k1 := fun n os => (K n os).2.2.1.2.1
  have k2 := fun n os => (K n os).2.2.1.2.2
  have k3 := fun n os => (K n os).2.2.2.1.1
  have k4 := fun n os => (K n os).2.2.2.1.2.1
  have k5 := fun n os => (K n os).2.2.2.1.2.2
  have k6 := fun n os => (K n os).1.1
  have k7 := fun n os => (K n os).1.2.1
  have k8 := fun n os => (K n os).1.2.2
  clear K
  refine wp_region_quiet_grown follows (by kernel_rfl) ?_
  repeat (go_big_quiet_step ((go_at_call 24; refine Ext.grown (successor_any bp x y bs m keep fs _ hm0 (hW2.quiet hm0 _ _).place (hW2.quiet hm0 _ _).succ))))
  refine wpQuiet_nil ?_
  intro _ hw'
  obtain ⟨⟨nq, osq⟩, hw''⟩ := hw'
  subst hw''
  have hW3 := hW2.quiet hm0 nq osq
  clear hW2 k0 k1 k2 k3 k4 k5 k6 k7 k8
  generalize grow (W2.drewN nq) osq = W3 at hW3 ⊢
  go_wp2
  go_end0
  exact ⟨rfl, bs, m, hW3.place, hW3.grown, Ne.symm hbs, hW3.succ.row⟩

end Go.Proofs.Qxb6618031a
