/- given, ZZGiven, ZZCounts, ZZMergedRecords. -/
import Derived.Test.Qxb6618064aRec
set_option linter.unusedVariables false
namespace Go.Proofs.Qxb6618064a
open Go.RowKit Go.Sort Go.Maps Go.WideShapes Go.ChangeShapes Go.WideMaps Plain

set_option maxHeartbeats 2000000 in
theorem given_nil (w : World) :
    Calls Try.prog 27 #[rec0] w fun e w' => e = .returned (.slice none 0 0) ∧ Ext w w' := by
  have hE0 : Ext w (w.alloc zero27) := (Ext.refl w).alloc _
  go_enter Try.func27, Try.ntmps27
  go_wp2
  go_ret
  exact ⟨rfl, hE0⟩
set_option maxHeartbeats 2000000 in
theorem given_any (p g m cap : Nat) (L : List A2) (n nm s lv : Nat) (w : World) (h : LogAt w p g m cap L) (hn : n ≤ L.length) (h0 : 0 < n) (hb : L.length ≤ 400000) :
    Calls Try.prog 27 #[recV p n nm s lv] w fun e w' => e = .returned (.slice (some ⟨g, 0, none⟩) n n) ∧ Ext w w' := by
  have hE0 : Ext w (w.alloc (rec27 p n nm s lv)) := (Ext.refl w).alloc _
  have hz := heap_alloc_new w (rec27 p n nm s lv)
  have hlog := h.ext hE0
  obtain ⟨c0, c1, cf⟩ := hlog.cells
  have hlt := hlog.lt.1
  have hle := h.le
  have hcm := h.cm
  unfold maxLen at hcm
  have hnz : ((n : Int) == 0) = false := by simp; omega
  generalize L.length = k at *
  clear h hlog
  have b1 : n ≤ cap := by omega
  have b2 : (0 : Int) ≤ (n : Int) := by omega
  have b3 : (n : Int) ≤ (cap : Int) := by omega
  have b4 : ¬ ((cap : Int) < (n : Int)) := by omega
  have b5 : ¬ ((n : Int) < 0) := by omega
  obtain ⟨z0, z1, z2, z3, z4, zf, zl⟩ := cells27 hz
  clear hz
  go_enter Try.func27, Try.ntmps27
  go_upto_region 1 with fail
  change Code.wp _ _ _ _ (w.alloc (rec27 p n nm s lv))
  generalize w.alloc (rec27 p n nm s lv) = W0 at *
  go_wp2
  go_big_region
  go_wp2
  go_ret
  exact ⟨rfl, hE0.drew⟩

/-- each block's log; each log's list -/
structure Inv (w : World) (own : Nat → Option Nat) (Ls : Nat → Option (List A2)) : Prop where
  lgo : ∀ p L, Ls p = some L → (∃ g m cap, LogAt w p g m cap L ∧ own p = some p ∧ own g = some p ∧ own m = some p) ∧ sumW L ≤ 1048576
  fresh : ∀ b, w.heap.size ≤ b → own b = none
theorem Inv.kept {F : Nat → Prop} {w w' : World} {own : Nat → Option Nat} {Ls : Nat → Option (List A2)} (h : Inv w own Ls) (hK : Kept F w w') (hF : ∀ b, b < w.heap.size → F b → own b = none) : Inv w' own Ls := by
  refine ⟨fun p L hp => ?_, fun b hb => h.fresh b (Nat.le_trans hK.size hb)⟩
  obtain ⟨⟨g, m, cap, hL, o1, o2, o3⟩, hs⟩ := h.lgo p L hp
  refine ⟨⟨g, m, cap, hL.kept hK ?_, o1, o2, o3⟩, hs⟩
  have hl := hL.lt
  rintro i (rfl | rfl | rfl) hFi
  · rw [hF _ hl.1 hFi] at o1; cases o1
  · rw [hF _ hl.2.1 hFi] at o2; cases o2
  · rw [hF _ hl.2.2 hFi] at o3; cases o3
theorem Inv.ext {w w' : World} {own : Nat → Option Nat} {Ls : Nat → Option (List A2)} (h : Inv w own Ls) (hE : Ext w w') : Inv w' own Ls := h.kept (hE.kept fun _ => False) (fun _ _ hf => hf.elim)
/-- the record of the list l, its log at po -/
abbrev recL (po : Option Nat) (l : List A2) : Value := .agg #[.pointer (po.map fun p => ⟨p, 0, none⟩), .int .i64 l.length, .int .i64 (firsts l).length, .int .i64 (sumW l), .int .i64 (sumW (mergeL l))]
structure RecAt (Ls : Nat → Option (List A2)) (po : Option Nat) (l : List A2) : Prop where
  at_ : (l = [] ∧ po = none) ∨ (l ≠ [] ∧ ∃ p L, po = some p ∧ Ls p = some L ∧ l <+: L)
  half : sumW l ≤ 2 * sumW (mergeL l)
theorem RecAt.grow {Ls Ls' : Nat → Option (List A2)} {po : Option Nat} {l : List A2} (h : RecAt Ls po l) (hg : ∀ p L, Ls p = some L → ∃ L', Ls' p = some L' ∧ L <+: L') : RecAt Ls' po l := by
  obtain ⟨h | ⟨hl, p, L, hp, hL, hpre⟩, hs⟩ := h
  · exact ⟨Or.inl h, hs⟩
  · obtain ⟨L', h1, h2⟩ := hg p L hL
    exact ⟨Or.inr ⟨hl, p, L', hp, h1, hpre.trans h2⟩, hs⟩
theorem sumW_mem {L : List A2} {x : A2} (h : x ∈ L) : wt1 x ≤ sumW L := by
  obtain ⟨i, hi⟩ := List.mem_iff_getElem?.1 h
  exact wt1_le hi
theorem len_le_sumW (L : List A2) : L.length * 32 ≤ sumW L := by
  induction L with
  | nil => simp
  | cons x L ih =>
    have : sumW (x :: L) = wt1 x + sumW L := by simp [sumW, wt]
    rw [this, List.length_cons]
    unfold wt1
    omega
theorem sumW_append (l r : List A2) : sumW (l ++ r) = sumW l + sumW r := wt_append wt1 l r
theorem prefix_take {l L : List A2} (h : l <+: L) : L.take l.length = l := (List.prefix_iff_eq_take.1 h).symm
theorem RowA.pre {w : World} {b off : Nat} {l L : List A2} (h : RowA w b off L) (hp : l <+: L) : RowA w b off l := by
  refine ⟨h.1, fun i x hx => h.2 i x ?_⟩
  rw [← prefix_take hp, List.getElem?_take] at hx
  split at hx
  · exact hx
  · cases hx
def GivPost (w W : World) (l : List A2) (e : Ending) : Prop := ∃ ao, e = .returned (.slice ao l.length l.length) ∧ RowO W ao l ∧ Ext w W
theorem given_rec {w : World} {own : Nat → Option Nat} {Ls : Nat → Option (List A2)} {po : Option Nat} {l : List A2} (hI : Inv w own Ls) (hr : RecAt Ls po l) (W : World) (hE : Ext w W) :
    Calls Try.prog 27 #[recL po l] W fun e w' => GivPost W w' l e := by
  obtain ⟨⟨rfl, rfl⟩ | ⟨hl, p, L, rfl, hL, hpre⟩, hs⟩ := hr
  · refine (given_nil W).mono ?_
    rintro e w' ⟨rfl, h⟩
    exact ⟨none, rfl, Or.inl rfl, h⟩
  · obtain ⟨⟨g, m, cap, hLg, _⟩, hs⟩ := (hI.ext hE).lgo p L hL
    have h32 := len_le_sumW L
    refine (given_any p g m cap L l.length _ _ _ W hLg (hpre.length_le) (List.length_pos_iff.2 hl) (by omega)).mono ?_
    rintro e w' ⟨rfl, h⟩
    exact ⟨_, rfl, Or.inr ⟨g, 0, rfl, ((hLg.ext h).buf.row).pre hpre⟩, h⟩
theorem zzgiven_of {a0 a1 a2 a3 a4 : Value} {l : List A2} {w : World} (hc : Calls Try.prog 27 #[.agg #[a0, a1, a2, a3, a4]] (w.alloc (.cells #[a0, a1, a2, a3, a4] 27 (0, 0))) fun e w' => GivPost (w.alloc (.cells #[a0, a1, a2, a3, a4] 27 (0, 0))) w' l e) :
    Calls Try.prog 11 #[.agg #[a0, a1, a2, a3, a4]] w fun e w' => GivPost w w' l e := by
  have hE0 : Ext w (w.alloc (.cells #[a0, a1, a2, a3, a4] 27 (0, 0))) := (Ext.refl w).alloc _
  have HC : Hid (Calls Try.prog 27 #[.agg #[a0, a1, a2, a3, a4]] (w.alloc (.cells #[a0, a1, a2, a3, a4] 27 (0, 0))) fun e w' => GivPost (w.alloc (.cells #[a0, a1, a2, a3, a4] 27 (0, 0))) w' l e) := hc
  clear hc
  go_enter Try.func11, Try.ntmps11
  go_wp2_with (go_at_call 27; refine HC.out.mono ?_; rintro e w1 ⟨ao, rfl, hRw, hE1⟩)
  go_ret
  exact ⟨ao, rfl, hRw, hE0.trans hE1⟩
theorem zzgiven_rec {w : World} {own : Nat → Option Nat} {Ls : Nat → Option (List A2)} {po : Option Nat} {l : List A2} (hI : Inv w own Ls) (hr : RecAt Ls po l) :
    Calls Try.prog 11 #[recL po l] w fun e w' => GivPost w w' l e := zzgiven_of (given_rec hI hr _ ((Ext.refl w).alloc _))
theorem zzcounts_any (a0 : Value) (n m s l : Int) (w : World) :
    Calls Try.prog 15 #[.agg #[a0, .int .i64 n, .int .i64 m, .int .i64 s, .int .i64 l]] w fun e w' => e = .returned (.tuple #[.int .i64 n, .int .i64 m, .int .i64 s, .int .i64 l]) ∧ Ext w w' := by
  have hE0 : Ext w (w.alloc (.cells #[a0, .int .i64 n, .int .i64 m, .int .i64 s, .int .i64 l] 27 (0, 0))) := (Ext.refl w).alloc _
  obtain ⟨z0, z1, z2, z3, z4, zf, zl⟩ := cells27 (heap_alloc_new w (.cells #[a0, .int .i64 n, .int .i64 m, .int .i64 s, .int .i64 l] 27 (0, 0)))
  go_enter Try.func15, Try.ntmps15
  go_upto_region 1 with fail
  change Code.wp _ _ _ _ (w.alloc (.cells #[a0, .int .i64 n, .int .i64 m, .int .i64 s, .int .i64 l] 27 (0, 0)))
  generalize w.alloc (.cells #[a0, .int .i64 n, .int .i64 m, .int .i64 s, .int .i64 l] 27 (0, 0)) = W0 at *
  go_wp2
  go_big_region
  go_wp2
  exact bodyPost_ret (v := .tuple #[.int .i64 n, .int .i64 m, .int .i64 s, .int .i64 l]) (by simp [results, Try.results15, go_sem]) rfl ⟨rfl, hE0.drew⟩

/-- a log that stands behind the blocks of w -/
structure NewLog (w W : World) (p g m cap : Nat) (L : List A2) : Prop where
  lgo : LogAt W p g m cap L
  below : Below w.heap.size w W
  lp : w.heap.size ≤ p
  lg : w.heap.size ≤ g
  lm : w.heap.size ≤ m
theorem merge_ne {l : List A2} (h : l ≠ []) : mergeL l ≠ [] := by
  obtain ⟨x, r, rfl⟩ := List.exists_cons_of_ne_nil h
  intro e
  have h1 : x.1 ∈ firsts (x :: r) := (mem_firsts _ _).2 ⟨x.2, by simp⟩
  rw [← names_merge, e] at h1
  simp at h1
theorem sumW_merge_le (l : List A2) : sumW (mergeL l) ≤ sumW l := by
  induction l using snoc_ind with
  | h0 => exact Nat.le_refl _
  | h1 l a ih =>
    rw [sumW_append]
    cases h : lastI l a.1 with
    | none =>
      have := live_new wt1 (l := l) (a := a) h
      unfold sumW at *
      simp [wt] at *
      omega
    | some i =>
      obtain ⟨v, h1, _⟩ := lastI_spec l _ _ h
      have := live_old wt1 (l := l) (a := a) h h1
      unfold sumW at *
      simp [wt] at *
      omega
theorem small_of {l : List A2} (h : sumW l ≤ 1048576) : Small l := ⟨fun x hx => by
  have := sumW_mem hx
  unfold wt1 at this
  omega, by omega⟩
theorem sizes_of {l : List A2} (h : sumW l ≤ 1048576) : ∀ x ∈ l, x.1.size ≤ maxLen ∧ x.2.size ≤ maxLen := fun x hx => by
  have := (small_of h).1 x hx
  unfold maxLen
  omega
theorem LogAt.again {W : World} {p g m cap : Nat} {L : List A2} (h : LogAt W p g m cap L) : LogAt (W.alloc (.cells #[.slice (some ⟨g, 0, none⟩) L.length cap, .map (some m)] 53 (0, 0))) W.heap.size g m cap L := by
  have h1 := h.ext ((Ext.refl W).alloc (.cells #[.slice (some ⟨g, 0, none⟩) L.length cap, .map (some m)] 53 (0, 0)))
  exact ⟨heap_alloc_new _ _, h1.buf, h1.mp, h1.le, h1.cm⟩
def RecO (w W : World) (g m cap : Nat) (L : List A2) (e : Ending) : Prop := ∃ po : Option Nat, e = .returned (.agg #[.pointer (po.map fun p => ⟨p, 0, none⟩), .int .i64 L.length, .int .i64 L.length, .int .i64 (sumW L), .int .i64 (sumW L)]) ∧ Ext w W ∧
  ((L = [] ∧ po = none) ∨ (L ≠ [] ∧ ∃ p, po = some p ∧ LogAt W p g m cap L ∧ w.heap.size ≤ p))
theorem records_o (p g m cap : Nat) (L : List A2) (w : World) (h : LogAt w p g m cap L) (hs : sumW L ≤ 1048576) :
    Calls Try.prog 25 #[.pointer (some ⟨p, 0, none⟩)] w fun e w' => RecO w w' g m cap L e := by
  by_cases hL : L = []
  · subst hL
    refine (records_nil p g m cap w h).mono ?_
    rintro e w' ⟨rfl, hE⟩
    exact ⟨none, rfl, hE, Or.inl ⟨rfl, rfl⟩⟩
  · have := len_le_sumW L
    refine (records_any p g m cap L w h hL (by omega) (small_of hs)).mono ?_
    rintro e w' ⟨p2, rfl, h2, hE, hp⟩
    exact ⟨some p2, rfl, hE, Or.inr ⟨hL, p2, rfl, h2, hp⟩⟩
theorem recL_merged (po : Option Nat) (l : List A2) : recL po (mergeL l) = .agg #[.pointer (po.map fun p => ⟨p, 0, none⟩), .int .i64 (mergeL l).length, .int .i64 (mergeL l).length, .int .i64 (sumW (mergeL l)), .int .i64 (sumW (mergeL l))] := by
  have h1 : (firsts (mergeL l)).length = (mergeL l).length := by rw [(Like.merged l).names, merge_len]
  have h2 : mergeL (mergeL l) = mergeL l := merge_merge l
  unfold recL
  rw [h1, h2]
/-- ZZMergedRecords' contract -/
def MRPost (w : World) (own : Nat → Option Nat) (Ls : Nat → Option (List A2)) (l : List A2) (e : Ending) (W : World) : Prop := ∃ own' Ls' po, e = .returned (recL po l) ∧ Inv W own' Ls' ∧ RecAt Ls' po l ∧ (∀ p L, Ls p = some L → Ls' p = some L) ∧ (∀ p, po = some p → w.heap.size ≤ p) ∧ Below w.heap.size w W ∧ ∀ b, b < w.heap.size → own' b = own b
theorem mr_end {w W : World} {own : Nat → Option Nat} {Ls : Nat → Option (List A2)} {po : Option Nat} {g m cap : Nat} {l : List A2} (hI : Inv w own Ls) (hB : Below w.heap.size w W) (hlg : w.heap.size ≤ g) (hlm : w.heap.size ≤ m) (hs : sumW (mergeL l) ≤ 1048576)
    (h : (mergeL l = [] ∧ po = none) ∨ (mergeL l ≠ [] ∧ ∃ p, po = some p ∧ LogAt W p g m cap (mergeL l) ∧ w.heap.size ≤ p)) : MRPost w own Ls (mergeL l) (.returned (recL po (mergeL l))) W := by
  have hhalf : sumW (mergeL l) ≤ 2 * sumW (mergeL (mergeL l)) := by rw [merge_merge]; omega
  have hK : Kept (fun _ => False) w W := ⟨hB.os, hB.tape, hB.output, hB.size, fun b hb _ => hB.block b hb⟩
  have hIW := hI.kept hK (fun _ _ hf => hf.elim)
  rcases h with ⟨h1, rfl⟩ | ⟨h1, p, rfl, hL, hp⟩
  · exact ⟨own, Ls, none, rfl, hIW, ⟨Or.inl ⟨h1, rfl⟩, hhalf⟩, fun _ _ h => h, fun p hp => (by cases hp), hB, fun _ _ => rfl⟩
  · have hlt := hL.lt
    refine ⟨fun b => if b = p ∨ b = g ∨ b = m then some p else own b, fun q => if q = p then some (mergeL l) else Ls q, some p, rfl, ⟨fun q L hq => ?_, fun b hb => ?_⟩, ⟨Or.inr ⟨h1, p, mergeL l, rfl, if_pos rfl, List.prefix_rfl⟩, hhalf⟩, fun q L hq => ?_, fun q hq => by injection hq with hq; omega, hB, fun b hb => if_neg (by omega)⟩
    · by_cases e : q = p
      · subst e
        rw [if_pos rfl] at hq
        injection hq with hq
        subst hq
        exact ⟨⟨g, m, cap, hL, if_pos (Or.inl rfl), if_pos (Or.inr (Or.inl rfl)), if_pos (Or.inr (Or.inr rfl))⟩, hs⟩
      · rw [if_neg e] at hq
        obtain ⟨⟨g', m', cap', hL', o1, o2, o3⟩, hs'⟩ := hI.lgo q L hq
        obtain ⟨⟨g'', m'', cap'', hL'', o1', o2', o3'⟩, _⟩ := hIW.lgo q L hq
        have hlt' := hL'.lt
        refine ⟨⟨g', m', cap', hL'.kept hK (fun _ _ hf => hf), ?_, ?_, ?_⟩, hs'⟩
        · rw [if_neg (by omega)]; exact o1
        · rw [if_neg (by omega)]; exact o2
        · rw [if_neg (by omega)]; exact o3
    · rw [if_neg (by omega)]
      exact hI.fresh b (Nat.le_trans hB.size hb)
    · have hne : q ≠ p := by
        obtain ⟨⟨g', m', cap', hL', _⟩, _⟩ := hI.lgo q L hq
        have := hL'.lt
        omega
      show (if q = p then _ else Ls q) = some L
      rw [if_neg hne]
      exact hq

theorem mr_set {w W2 W3 : World} {own : Nat → Option Nat} {Ls : Nat → Option (List A2)} {po : Option Nat} {p g m cp : Nat} {l : List A2} {o1 o2 o3 : Obj} {a0 a1 a2 a3 a4 : Value} (hI : Inv w own Ls) (hX : XS ((w.alloc o1).alloc o2) W2 p g m cp (mergeL l)) (hE : Ext W2 W3) (hs : sumW (mergeL l) ≤ 1048576)
    (hr : (mergeL l = [] ∧ po = none) ∨ (mergeL l ≠ [] ∧ ∃ p, po = some p ∧ LogAt W3 p g m cp (mergeL l) ∧ (W2.alloc o3).heap.size ≤ p)) : MRPost w own Ls (mergeL l) (.returned (recL po (mergeL l))) (set5 W3 w.heap.size a0 a1 a2 a3 a4) := by
  have h1 : ((w.alloc o1).alloc o2).heap.size = w.heap.size + 1 + 1 := by simp
  have h2 : (W2.alloc o3).heap.size = W2.heap.size + 1 := by simp
  have hs2 := hX.below.size
  have hg := hX.lg
  have hm := hX.lm
  have hB : Below w.heap.size w W3 := ((((Ext.refl w).alloc o1).alloc o2).below.trans (hX.below.mono (by omega))).trans (hE.below.mono (by omega))
  refine mr_end hI ?_ (by omega) (by omega) hs ?_ (g := g) (m := m) (cap := cp)
  · unfold set5
    have hle : w.heap.size ≤ w.heap.size := Nat.le_refl _
    exact ((((hB.setCell (p := ⟨w.heap.size, 0, none⟩) hle _).setCell (p := ⟨w.heap.size, 1, none⟩) hle _).setCell (p := ⟨w.heap.size, 2, none⟩) hle _).setCell (p := ⟨w.heap.size, 3, none⟩) hle _).setCell (p := ⟨w.heap.size, 4, none⟩) hle _
  · rcases hr with h | ⟨h, q, e, hL, hq⟩
    · exact Or.inl h
    · exact Or.inr ⟨h, q, e, hL.block (set5_other (by omega)) (set5_other (by omega)) (set5_other (by omega)), by omega⟩

set_option maxHeartbeats 2000000 in
theorem zzmerged_any (ao : Option Addr) (n cap : Nat) (l : List A2) (own : Nat → Option Nat) (Ls : Nat → Option (List A2)) (w : World) (hI : Inv w own Ls) (hl : l.length = n) (hR : RowO w ao l) (hs : sumW l ≤ 1048576) :
    Calls Try.prog 7 #[.slice ao n cap] w fun e w' => MRPost w own Ls (mergeL l) e w' := by
  have h32 := len_le_sumW l
  have hms := sumW_merge_le l
  have HI : Hid _ := hI
  have HL : Hid _ := hl
  have hn : n ≤ 200000 := by omega
  have hE0 : Ext w (w.alloc zero27) := (Ext.refl w).alloc _
  have hE1 : Ext w ((w.alloc zero27).alloc (.cells #[.slice ao n cap] 29 (0, 0))) := hE0.alloc _
  have hbl : ((w.alloc zero27).alloc (.cells #[.slice ao n cap] 29 (0, 0))).cell? ⟨w.heap.size + 1, 0, none⟩ = some (.slice ao n cap) := by
    have := heap_alloc_new (w.alloc zero27) (.cells #[.slice ao n cap] 29 (0, 0))
    rw [show (w.alloc zero27).heap.size = w.heap.size + 1 by simp] at this
    unfold World.cell?
    simp only [this]
    rfl
  have hc := mrg_any (w.heap.size + 1) ao n cap l _ hn hl hbl (hR.ext hE1) (sizes_of hs)
  have HC : Hid (Calls Try.prog 24 #[.slice (some ⟨w.heap.size + 1, 0, none⟩) 1 1] ((w.alloc zero27).alloc (.cells #[.slice ao n cap] 29 (0, 0))) fun e w' => MrgPost ((w.alloc zero27).alloc (.cells #[.slice ao n cap] 29 (0, 0))) w' l e) := hc
  have hz : ((w.alloc zero27).alloc (.cells #[.slice ao n cap] 29 (0, 0))).heap[w.heap.size]? = some zero27 := ((Ext.refl _).alloc _).block _ (by simp) |>.trans (heap_alloc_new w zero27)
  have HZ : Hid _ := hz
  have HE : Hid (Ext w ((w.alloc zero27).alloc (.cells #[.slice ao n cap] 29 (0, 0)))) := hE1
  clear hc hI hl hz hbl hE0 hE1
  go_enter Try.func7, Try.ntmps7
  go_wp2_with (go_at_call 24; refine HC.out.mono ?_; rintro e W2 ⟨p, g, m, cp, rfl, hX⟩)
  have hV := hX.lgo.again
  refine (records_o W2.heap.size g m cp (mergeL l) _ hV (by omega)).mono ?_
  rintro e W3 ⟨po, rfl, hE3, hrec⟩
  have hE3' : Ext W2 W3 := ((Ext.refl W2).alloc _).trans hE3
  have hzz : W3.heap[w.heap.size]? = some zero27 := (hE3'.block _ (Nat.lt_of_lt_of_le (Array.getElem?_eq_some_iff.1 HZ.out).1 hX.below.size)).trans ((hX.below.block _ (Array.getElem?_eq_some_iff.1 HZ.out).1).trans HZ.out)
  have hs2 := HE.out.size
  have HX : Hid _ := hX
  obtain ⟨z0, z1, z2, z3, z4, zf, zl⟩ := cells27 hzz
  have HZZ : Hid _ := hzz
  have HR : Hid _ := hrec
  have HE3 : Hid (Ext W2 W3) := hE3'
  clear hX hzz hrec hV hE3 hE3'
  go_wp2
  refine bodyPost_ret (v := recL po (mergeL l)) (by rw [recL_merged]; simp [results, Try.results7, go_sem, z0, z1, z2, z3, z4]) rfl ?_
  exact mr_set HI.out HX.out HE3.out (by omega) HR.out
end Go.Proofs.Qxb6618064a
