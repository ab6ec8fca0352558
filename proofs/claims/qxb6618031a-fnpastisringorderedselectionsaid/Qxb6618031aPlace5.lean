import Derived.Test.Qxb6618031aOwn5
import Derived.Test.Qxb6618031aMain3
import Derived.Deep.RegionWith
import Derived.Deep.DeepCutAuto
import Derived.Deep.RegionHeld3
set_option linter.unusedVariables false
namespace Go.Proofs.Qxb6618031a
open Go.RowKit Go.Sort

def A3 (x : W3) : Value := .agg #[.int .u64 x.1, .int .u64 x.2.1, .int .u64 x.2.2]

set_option maxRecDepth 100000 in
set_option maxHeartbeats 4000000 in
theorem fn5_early (x y : W3) (so ao : Option Addr) (m mc n cap : Nat) (keep : Int) (w : World) (hmm : m ≤ 9223372036854775807) (hnn : n ≤ 9223372036854775807) (h : 4096 < m ∨ 4096 < n) :
    Calls Try.prog 5 #[.agg #[.int .u64 x.1, .int .u64 x.2.1, .int .u64 x.2.2], .agg #[.int .u64 y.1, .int .u64 y.2.1, .int .u64 y.2.2], .slice so m mc, .int .i64 keep, .slice ao n cap] w fun e w' => e = .returned (.bool true) ∧ Ext w w' := by
  have hE : Ext w ((w.alloc (box28 x)).alloc (box28 y)) := ((Ext.refl w).alloc _).alloc _
  by_cases h0 : 1048576 < m + n
  · go_enter Try.func5, Try.ntmps5
    go_wp2_with (go_at_call 16; refine (bytes16_no x y _ _ _ _ _ _ _ _ hmm hnn h0).mono ?_; rintro e w1 ⟨rfl, hE1⟩)
    go_ret
    exact ⟨rfl, hE.trans hE1⟩
  · have h0' : m + n ≤ 1048576 := by omega
    by_cases h1 : 4096 < m
    · go_enter Try.func5, Try.ntmps5
      go_wp2_with (go_at_call 16; refine (bytes16_ok x y _ _ _ _ _ _ _ _ h0').mono ?_; rintro e w1 ⟨rfl, hE1⟩)
      go_ret
      exact ⟨rfl, hE.trans hE1⟩
    · have h2 : 4096 < n := by omega
      clear h
      go_enter Try.func5, Try.ntmps5
      go_wp2_with (go_at_call 16; refine (bytes16_ok x y _ _ _ _ _ _ _ _ h0').mono ?_; rintro e w1 ⟨rfl, hE1⟩)
      go_ret
      exact ⟨rfl, hE.trans hE1⟩

def PlacePost (W : World) (x y : W3) (keep : Int) (m : Nat) (fs : Nat → W3) (v : Value) (W' : World) : Prop :=
  Ext W W' ∧ ∃ bp bs, v = .pointer (some ⟨bp, 0, none⟩) ∧ W'.heap[bp]? = some (placeObj x y bs m keep) ∧ Buf3 W' bs m fs ∧ W.heap.size ≤ bp ∧ W.heap.size ≤ bs

abbrev placeZero : Obj := .cells #[.int .u64 0, .int .u64 0, .int .u64 0, .int .u64 0, .int .u64 0, .int .u64 0, .slice none 0 0, .int .i64 0] 32 (0, 0)
theorem alloc_zero (X : World) : (X.alloc placeZero).heap[X.heap.size]? = some placeZero := by show (X.heap.push _)[X.heap.size]? = _; simp
theorem Ext.keepz {V W : World} (h : Ext V W) {b : Nat} (e : V.heap[b]? = some placeZero) : W.heap[b]? = some placeZero := h.keeps e
theorem zero_cells {V : World} {b : Nat} (h : V.heap[b]? = some placeZero) : V.cell? ⟨b, 0, none⟩ = some (.int .u64 0) ∧ V.cell? ⟨b, 1, none⟩ = some (.int .u64 0) ∧ V.cell? ⟨b, 2, none⟩ = some (.int .u64 0) ∧
    V.cell? ⟨b, 3, none⟩ = some (.int .u64 0) ∧ V.cell? ⟨b, 4, none⟩ = some (.int .u64 0) ∧ V.cell? ⟨b, 5, none⟩ = some (.int .u64 0) ∧ V.cell? ⟨b, 6, none⟩ = some (.slice none 0 0) ∧ V.cell? ⟨b, 7, none⟩ = some (.int .i64 0) ∧ ∀ o, V.frozen? ⟨b, o, none⟩ = false := by
  simp [World.cell?, World.frozen?, h, placeZero]
theorem zzid_e {w2 : World} (a b c : Int) (V : World) (hE : Ext w2 V) :
    Calls Try.prog 17 #[.agg #[.int .u64 a, .int .u64 b, .int .u64 c]] V fun e w' => e = .returned (.agg #[.int .u64 a, .int .u64 b, .int .u64 c]) ∧ Ext w2 w' ∧ Ext V w' := by
  refine (zzid_any a b c V).mono ?_
  rintro e w' ⟨rfl, h⟩
  exact ⟨rfl, hE.trans h, h⟩
def IdsPost (w2 V : World) (m : Nat) (fs : Nat → W3) (e : Ending) (W : World) : Prop := ∃ bs, e = .returned (.slice (some ⟨bs, 0, none⟩) m m) ∧ Ext w2 W ∧ Ext V W ∧ V.heap.size ≤ bs ∧ Buf3 W bs m fs ∧ w2.heap.size ≤ bs
theorem toIDs_e {w2 : World} (so : Option Addr) (m mc : Nat) (fs : Nat → W3) (V : World) (hE : Ext w2 V) (hm : m ≤ 4096) (hS : RowO w2 so m fs) :
    Calls Try.prog 8 #[.slice so m mc] V fun e w' => IdsPost w2 V m fs e w' := by
  refine (toIDs_o so m mc fs V (by omega) (hS.ext hE)).mono ?_
  rintro e w' ⟨rfl, h, hB⟩
  exact ⟨V.heap.size, rfl, hE.trans h, h, Nat.le_refl _, hB, hE.size⟩
theorem place_alloc {w2 W : World} {x y : W3} {keep : Int} {bs m : Nat} {fs : Nat → W3} (hE : Ext w2 W) (hB : Buf3 W bs m fs) (hb : w2.heap.size ≤ bs) : PlacePost w2 x y keep m fs (.pointer (some ⟨W.heap.size, 0, none⟩)) (W.alloc (placeObj x y bs m keep)) :=
  ⟨hE.alloc _, W.heap.size, bs, rfl, by show (W.heap.push _)[W.heap.size]? = _; simp, hB.ext ((Ext.refl W).alloc _), hE.size, hb⟩
theorem place_stored {w2 V W : World} {x y : W3} {keep : Int} {bp bs m : Nat} {fs : Nat → W3} (hE : Ext w2 W) (hz : W.heap[bp]? = some placeZero) (hbp : w2.heap.size ≤ bp) (hv : V.heap[bp]? = some placeZero) (hbs : V.heap.size ≤ bs) (hB : Buf3 W bs m fs) (hb : w2.heap.size ≤ bs) :
    PlacePost w2 x y keep m fs (.pointer (some ⟨bp, 0, none⟩)) ((((((((W.setCell ⟨bp, 0, none⟩ (.int .u64 x.1)).setCell ⟨bp, 1, none⟩ (.int .u64 x.2.1)).setCell ⟨bp, 2, none⟩ (.int .u64 x.2.2)).setCell ⟨bp, 3, none⟩ (.int .u64 y.1)).setCell ⟨bp, 4, none⟩ (.int .u64 y.2.1)).setCell ⟨bp, 5, none⟩ (.int .u64 y.2.2)).setCell ⟨bp, 6, none⟩ (.slice (some ⟨bs, 0, none⟩) m m)).setCell ⟨bp, 7, none⟩ (.int .i64 keep)) := by
  have hlt := (Array.getElem?_eq_some_iff.1 hv).1
  refine ⟨?_, bp, bs, rfl, ?_, ?_, hbp, hb⟩
  · iterate 8 refine Ext.setCell ?_ hbp _
    exact hE
  · rw [heap_setCell_cells (heap_setCell_cells (heap_setCell_cells (heap_setCell_cells (heap_setCell_cells (heap_setCell_cells (heap_setCell_cells (heap_setCell_cells hz)))))))]
    simp [placeObj]
  · obtain ⟨c, hc, r⟩ := hB
    refine ⟨c, ?_, r⟩
    iterate 8 rw [heap_set_other (by omega)]
    exact hc
theorem six_of {w2 W : World} {b : Nat} {x y : W3} (hE : Ext w2 W) (hx : w2.heap[b]? = some (box28 x)) (hy : w2.heap[b + 1]? = some (box28 y)) :
    Ext w2 W ∧ W.cell? ⟨b, 0, none⟩ = some (.int .u64 x.1) ∧ W.cell? ⟨b, 1, none⟩ = some (.int .u64 x.2.1) ∧ W.cell? ⟨b, 2, none⟩ = some (.int .u64 x.2.2) ∧
      W.cell? ⟨b + 1, 0, none⟩ = some (.int .u64 y.1) ∧ W.cell? ⟨b + 1, 1, none⟩ = some (.int .u64 y.2.1) ∧ W.cell? ⟨b + 1, 2, none⟩ = some (.int .u64 y.2.2) := by
  obtain ⟨x0, x1, x2⟩ := boxed28 (hE.keeps hx)
  obtain ⟨y0, y1, y2⟩ := boxed28 (hE.keeps hy)
  exact ⟨hE, x0, x1, x2, y0, y1, y2⟩


/-- a slice that past hands back -/
def GotO (W : World) (go : Option Addr) (L : Nat) (f : Nat → W3) (base : Nat) : Prop := L = 0 ∨ ∃ g, go = some ⟨g, 0, none⟩ ∧ base ≤ g ∧ Row3 W g 0 L f
def GotPost (w w' : World) (l : List W3) (e : Ending) : Prop := ∃ go gl gc, e = .returned (.slice go gl gc) ∧ Hid (gl = l.length) ∧ Below w.heap.size w w' ∧ GotO w' go gl (fun i => l[i]!) w.heap.size
theorem zzpast_o (bp : Nat) (x y : W3) (keep : Int) (bs m : Nat) (fs : Nat → W3) (bi n : Nat) (Z : Nat → W3) (w : World) (hP : w.heap[bp]? = some (placeObj x y bs m keep)) (hS : Buf3 w bs m fs) (hI : Buf3 w bi n Z) (hm : m ≤ 100000) (hn : n ≤ 100000) :
    Calls Try.prog 12 #[.pointer (some ⟨bp, 0, none⟩), .slice (some ⟨bi, 0, none⟩) n n] w fun e w' => GotPost w w' (pastL x y fs m Z n) e := by
  refine (zzpast_any bp x y keep bs m fs bi n Z w hP hS hI hm hn).mono ?_
  rintro e w' ⟨hB, h⟩
  rcases h with ⟨hl, rfl⟩ | ⟨hl, g, cap, rfl, hg, hR⟩
  · exact ⟨none, 0, 0, rfl, by rw [hl]; rfl, hB, Or.inl rfl⟩
  · exact ⟨_, _, cap, rfl, rfl, hB, Or.inr ⟨g, rfl, hg, hR⟩⟩

theorem info28 : (Try.prog.info? 28).map (fun i => (i.zero, i.size, i.bytes)) = some (some (.agg #[.int .u64 0, .int .u64 0, .int .u64 0]), 3, 24) := by kernel_rfl
theorem run_make22 (n : Nat) (hn : n ≤ 1000000) (w : World) : (Instr.makeSlice 22 (.int .i64 0) (.int .i64 n)).run Try.prog w = .ok (.slice (some ⟨w.heap.size, 0, none⟩) 0 n) (w.alloc (.cells (made3 n) 28)) := by
  obtain ⟨i, hi, hz, hs, hb⟩ := info_parts info28
  have := run_make (P := Try.prog) w 22 28 i _ Try.underlying22 hi hz .i64 .i64 0 n (by omega) (by omega) (by rw [hb]; omega) (by omega)
  rw [hs] at this
  exact this
theorem BufW.made {w : World} {b n : Nat} (F : Nat → W3) (h : w.heap[b]? = some (.cells (made3 n) 28 (0, 0))) : BufW w b n 0 F :=
  ⟨made3 n, h, made3_size n, fun i hi => by omega⟩
theorem news28 (V : World) (z : W3) : ∀ j u, (enc3 z)[j]? = some u → (V.alloc (box28 z)).cell? ((⟨V.heap.size, 0, none⟩ : Addr).add j) = some u := by
  intro j u hu
  have hb : (V.alloc (box28 z)).heap[V.heap.size]? = some (box28 z) := by show (V.heap.push _)[V.heap.size]? = _; simp
  obtain ⟨c0, c1, c2⟩ := boxed28 hb
  have hj : j < 3 := by
    have := (List.getElem?_eq_some_iff.1 hu).1
    simpa [enc3] using this
  match j, hj with
  | 0, _ => simp [enc3] at hu; subst hu; exact c0
  | 1, _ => simp [enc3] at hu; subst hu; exact c1
  | 2, _ => simp [enc3] at hu; subst hu; exact c2

theorem GotO.ext {W W' : World} {go : Option Addr} {L : Nat} {f : Nat → W3} {base : Nat} (h : GotO W go L f base) (hE : Ext W W') : GotO W' go L f base := by
  rcases h with h | ⟨g, e, hb, hR⟩
  · exact Or.inl h
  · exact Or.inr ⟨g, e, hb, hR.ext hE⟩
/-- a slice that lies below a block -/
def RowB (W : World) (ao : Option Addr) (n : Nat) (Z : Nat → W3) (lim : Nat) : Prop := n = 0 ∨ ∃ b off, ao = some ⟨b, off, none⟩ ∧ b < lim ∧ Row3 W b off n Z
theorem GotO.lt {W : World} {go : Option Addr} {L : Nat} {f : Nat → W3} {base : Nat} (h : GotO W go L f base) : L = 0 ∨ ∃ g, go = some ⟨g, 0, none⟩ ∧ g < W.heap.size := by
  rcases h with h | ⟨g, e, hb, hR⟩
  · exact Or.inl h
  · exact Or.inr ⟨g, e, hR.1⟩
theorem GotO.row {W : World} {go : Option Addr} {L : Nat} {f : Nat → W3} {base lim : Nat} (h : GotO W go L f base) (hl : L = 0 ∨ ∃ g, go = some ⟨g, 0, none⟩ ∧ g < lim) : L = 0 ∨ ∃ g, go = some ⟨g, 0, none⟩ ∧ g < lim ∧ Row3 W g 0 L f := by
  rcases h with h | ⟨g, e, hb, hR⟩
  · exact Or.inl h
  · rcases hl with hl | ⟨g', e', hl⟩
    · exact Or.inl hl
    · subst e
      injection e' with e'
      injection e' with e'
      subst e'
      exact Or.inr ⟨g, rfl, hl, hR⟩
theorem RowO.lt {W : World} {ao : Option Addr} {n : Nat} {Z : Nat → W3} (h : RowO W ao n Z) : n = 0 ∨ ∃ b off, ao = some ⟨b, off, none⟩ ∧ b < W.heap.size := by
  rcases h with h | ⟨b, off, e, hR⟩
  · exact Or.inl h
  · exact Or.inr ⟨b, off, e, hR.1⟩
theorem RowO.of_below {w W : World} {ao : Option Addr} {n : Nat} {Z : Nat → W3} (h : RowO w ao n Z) (hB : Below w.heap.size w W) : RowO W ao n Z := by
  rcases h with h | ⟨b, off, e, hR⟩
  · exact Or.inl h
  · exact Or.inr ⟨b, off, e, hR.of_below hB⟩
/-- the world at the law's loop, but for the two rows it makes -/
structure EN (W0 w : World) (bw bf : Nat) (so ao : Option Addr) (m n : Nat) (fs Z : Nat → W3) (x bd : W3) (go : Option Addr) (gl : Nat) (gf : Nat → W3) (bz bb : Nat) : Prop where
  bx : W0.heap[w.heap.size]? = some (box28 x)
  bzero : W0.heap[bz]? = some (box28 (0, 0, 0))
  bbound : W0.heap[bb]? = some (box28 bd)
  ws : RowO W0 ao n Z
  succs : RowO W0 so m fs
  got : gl = 0 ∨ ∃ g, go = some ⟨g, 0, none⟩ ∧ g < bw ∧ Row3 W0 g 0 gl gf
  below : Below w.heap.size w W0
  lw : w.heap.size < bw
  lz : bz < bw
  lb : bb < bw
  lf : bw < bf
  wlt : bw < W0.heap.size
  flt : bf < W0.heap.size
  xz : w.heap.size < bz
  zb : bz < bb
  wsl : n = 0 ∨ ∃ b off, ao = some ⟨b, off, none⟩ ∧ b < w.heap.size
  sl : m = 0 ∨ ∃ b off, so = some ⟨b, off, none⟩ ∧ b < w.heap.size
/-- the two rows -/
structure OS (W0 W : World) (bw bf n L : Nat) (F : Nat → W3) (x : W3) : Prop where
  fr : Fr W0 W bw bf
  want : BufW W bw n L F
  far : BufW W bf n L (fun j => subF (F j) x)
theorem OS.ext {W0 W W' : World} {bw bf n L : Nat} {F : Nat → W3} {x : W3} (h : OS W0 W bw bf n L F x) (hE : Ext W W') : OS W0 W' bw bf n L F x := ⟨h.fr.ext hE, h.want.ext hE, h.far.ext hE⟩
theorem Fr.heap {W0 W : World} {bw bf k : Nat} {o : Obj} (h : Fr W0 W bw bf) (e : W0.heap[k]? = some o) (h1 : k ≠ bw) (h2 : k ≠ bf) : W.heap[k]? = some o :=
  (h.block k (Array.getElem?_eq_some_iff.1 e).1 h1 h2).trans e
theorem EN.ws' {W0 W w : World} {bw bf : Nat} {so ao : Option Addr} {m n : Nat} {fs Z : Nat → W3} {x bd : W3} {go : Option Addr} {gl : Nat} {gf : Nat → W3} {bz bb : Nat} (h : EN W0 w bw bf so ao m n fs Z x bd go gl gf bz bb) (hF : Fr W0 W bw bf) (hn : 0 < n) : ∃ b off, ao = some ⟨b, off, none⟩ ∧ Row3 W b off n Z := by
  rcases h.ws with h0 | ⟨b, off, e, hR⟩
  · omega
  · rcases h.wsl with h0 | ⟨b', off', e', hl⟩
    · omega
    · subst e
      injection e' with e'
      injection e' with e1 e2
      subst e1
      have := h.lw
      have := h.lf
      exact ⟨b, off, rfl, hR.fr hF (by omega) (by omega)⟩
theorem EN.succs' {W0 W w : World} {bw bf : Nat} {so ao : Option Addr} {m n : Nat} {fs Z : Nat → W3} {x bd : W3} {go : Option Addr} {gl : Nat} {gf : Nat → W3} {bz bb : Nat} (h : EN W0 w bw bf so ao m n fs Z x bd go gl gf bz bb) (hF : Fr W0 W bw bf) : RowO W so m fs := by
  rcases h.succs with h0 | ⟨b, off, e, hR⟩
  · exact Or.inl h0
  · rcases h.sl with h0 | ⟨b', off', e', hl⟩
    · exact Or.inl h0
    · subst e
      injection e' with e'
      injection e' with e1 e2
      subst e1
      have := h.lw
      have := h.lf
      exact Or.inr ⟨b, off, rfl, hR.fr hF (by omega) (by omega)⟩
theorem EN.got' {W0 W w : World} {bw bf : Nat} {so ao : Option Addr} {m n : Nat} {fs Z : Nat → W3} {x bd : W3} {go : Option Addr} {gl : Nat} {gf : Nat → W3} {bz bb : Nat} (h : EN W0 w bw bf so ao m n fs Z x bd go gl gf bz bb) (hF : Fr W0 W bw bf) (hn : 0 < gl) : ∃ g, go = some ⟨g, 0, none⟩ ∧ Row3 W g 0 gl gf := by
  rcases h.got with h0 | ⟨g, e, hl, hR⟩
  · omega
  · have := h.lf
    exact ⟨g, e, hR.fr hF (by omega) (by omega)⟩
theorem EN.below' {W0 W w : World} {bw bf : Nat} {so ao : Option Addr} {m n : Nat} {fs Z : Nat → W3} {x bd : W3} {go : Option Addr} {gl : Nat} {gf : Nat → W3} {bz bb : Nat} (h : EN W0 w bw bf so ao m n fs Z x bd go gl gf bz bb) (hF : Fr W0 W bw bf) : Below w.heap.size w W := by
  have := h.lw
  have := h.lf
  have hsz := h.below.size
  exact ⟨hF.os.trans h.below.os, hF.tape.trans h.below.tape, hF.output.trans h.below.output, Nat.le_trans hsz hF.size, fun k hk => (hF.block k (by omega) (by omega) (by omega)).trans (h.below.block k hk)⟩

theorem ins_swap (F : Nat → W3) (z fw : W3) {u : Nat} (hfw : fw = F (u - 1)) (hu : 1 ≤ u) (i : Nat) : (if i = u then fw else if i = u - 1 then z else insF F z u i) = insF F z (u - 1) i := by
  unfold insF
  by_cases h1 : i = u
  · subst h1
    rw [if_pos rfl, if_neg (by omega), if_neg (by omega), hfw]
  · rw [if_neg h1]
    by_cases h2 : i = u - 1
    · rw [if_pos h2, if_neg (by omega), if_pos h2]
    · rw [if_neg h2]
      by_cases h3 : i < u
      · rw [if_pos h3, if_pos (by omega)]
      · rw [if_neg h3, if_neg h1, if_neg (by omega), if_neg h2]
theorem ins_swap_far (F : Nat → W3) (z x fw fa d : W3) {u : Nat} (hfw : fw = F (u - 1)) (hfa : fa = subF (F (u - 1)) x) (hd : d = subF z x) (hu : 1 ≤ u) (i : Nat) :
    (if i = u then fa else if i = u - 1 then d else subF (insF F z u i) x) = subF (insF F z (u - 1) i) x := by
  rw [← ins_swap F z fw hfw hu i]
  by_cases h1 : i = u
  · rw [if_pos h1, if_pos h1, hfa, hfw]
  · rw [if_neg h1, if_neg h1]
    by_cases h2 : i = u - 1
    · rw [if_pos h2, if_pos h2, hd]
    · rw [if_neg h2, if_neg h2]

/-! what the law's order means, by distances -/
theorem Want.fit {x y : W3} {fs : Nat → W3} {m : Nat} {Z : Nat → W3} {t L n : Nat} {F : Nat → W3} (h : Want x y fs m Z t L F) (hx : Fit x) (hy : Fit y) (hZ : ∀ i, i < n → Fit (Z i)) (ht : t ≤ n) {j : Nat} (hj : j < L) : Fit (F j) ∧ F j ≠ x := by
  obtain ⟨⟨k, hk, e⟩, hb, _⟩ := (h.mem (F j)).1 ⟨j, hj, rfl⟩
  have hf : Fit (F j) := by rw [← e]; exact hZ k (by omega)
  exact ⟨hf, fun e' => before_self hx hy (by rw [e'] at hb; exact hb)⟩
theorem far_gt {x a z : W3} (hx : Fit x) (ha : Fit a) (hz : Fit z) (hax : a ≠ x) (hzx : z ≠ x) : 0 < cmp3F (subF a x) (subF z x) ↔ Ring.before x z a := by
  rw [cmp3F_gt, before_sub hx hz ha hzx]
  exact ⟨fun h => Or.inr h, fun h => h.elim (fun e => absurd e hax) id⟩
theorem Want.lo {x y : W3} {fs : Nat → W3} {m : Nat} {Z : Nat → W3} {t L n : Nat} {F : Nat → W3} (h : Want x y fs m Z t L F) (hx : Fit x) (hy : Fit y) (hZ : ∀ i, i < n → Fit (Z i)) (ht : t ≤ n) {z : W3} (hz : Fit z) (hzx : z ≠ x) (hno : ∀ j, j < L → F j ≠ z) {u : Nat} (hu : u ≤ L)
    (hc : u = 0 ∨ ¬ 0 < cmp3F (subF (F (u - 1)) x) (subF z x)) : ∀ j, j < u → Ring.before x (F j) z := by
  intro j hj
  rcases hc with hc | hc
  · omega
  · obtain ⟨hf, hfx⟩ := h.fit hx hy hZ ht (j := u - 1) (by omega)
    rw [far_gt hx hf hz hfx hzx] at hc
    have hlast : Ring.before x (F (u - 1)) z := by
      rcases Ring.before_tri x (F (u - 1)) z with h' | h' | h'
      · exact h'
      · exact absurd h' (hno (u - 1) (by omega))
      · exact absurd h' hc
    by_cases hj2 : j = u - 1
    · rw [hj2]; exact hlast
    · exact Ring.before_trans (h.srt j (u - 1) (by omega) (by omega)) hlast
end Go.Proofs.Qxb6618031a
