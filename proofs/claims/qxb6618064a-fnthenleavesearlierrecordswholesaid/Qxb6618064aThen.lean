/- then: the easy ways; the words for the long one. -/
import Derived.Test.Qxb6618064aGiv
import Derived.Deep.RegionWith
import Derived.Deep.CutBlock
set_option linter.unusedVariables false
namespace Go.Proofs.Qxb6618064a
open Go.RowKit Go.Sort Go.Maps Go.WideShapes Go.ChangeShapes Go.WideMaps Plain

theorem al3' (w : World) (a b c : Obj) : (((w.alloc a).alloc b).alloc c).heap[w.heap.size]? = some a ∧ (((w.alloc a).alloc b).alloc c).heap[w.heap.size + 1]? = some b ∧ (((w.alloc a).alloc b).alloc c).heap[w.heap.size + 1 + 1]? = some c := al3 w a b c
abbrev recG (ap : Option Addr) (n m s l : Int) : Value := .agg #[.pointer ap, .int .i64 n, .int .i64 m, .int .i64 s, .int .i64 l]
theorem then_s0 (ap : Option Addr) (n m s l : Int) (w : World) : Calls Try.prog 26 #[recG ap n m s l, rec0] w fun e w' => e = .returned (recG ap n m s l) ∧ Ext w w' := by
  have hE : Ext w (((w.alloc (.cells #[.pointer ap, .int .i64 n, .int .i64 m, .int .i64 s, .int .i64 l] 27 (0, 0))).alloc zero27).alloc (.cells #[.pointer ap, .int .i64 n, .int .i64 m, .int .i64 s, .int .i64 l] 27 (0, 0))) := (((Ext.refl w).alloc _).alloc _).alloc _
  have HE : Hid _ := hE
  clear hE
  go_enter Try.func26, Try.ntmps26
  go_wp2
  refine bodyPost_ret (v := recG ap n m s l) (by simp [results, Try.results26, go_sem]) rfl ⟨rfl, ?_⟩
  exact HE.out
theorem then_r0 (ap : Option Addr) (n : Nat) (m s l : Int) (w : World) (hn : 0 < n) : Calls Try.prog 26 #[rec0, recG ap n m s l] w fun e w' => e = .returned (recG ap n m s l) ∧ Ext w w' := by
  have hE : Ext w (((w.alloc zero27).alloc (.cells #[.pointer ap, .int .i64 n, .int .i64 m, .int .i64 s, .int .i64 l] 27 (0, 0))).alloc (.cells #[.pointer ap, .int .i64 n, .int .i64 m, .int .i64 s, .int .i64 l] 27 (0, 0))) := (((Ext.refl w).alloc _).alloc _).alloc _
  have HE : Hid _ := hE
  clear hE
  have hnz : ((n : Int) == 0) = false := by simp; omega
  go_enter Try.func26, Try.ntmps26
  go_wp2
  refine bodyPost_ret (v := recG ap n m s l) (by simp [results, Try.results26, go_sem]) rfl ⟨rfl, ?_⟩
  exact HE.out

/-- behind the switch: the log that s's attributes go into -/
def Mid (W0 : World) (b2 p g m : Nat) (L lr : List A2) (W : World) : Prop := ∃ p1 g1 m1 cap1 l1,
  W.heap[b2]? = some (rec27 p1 l1.length (firsts l1).length (sumW l1) (sumW (mergeL l1))) ∧ LogAt W p1 g1 m1 cap1 l1 ∧ Like l1 lr ∧ sumW l1 ≤ sumW lr ∧
  ((p1 = p ∧ g1 = g ∧ m1 = m ∧ l1 = lr ∧ L = lr) ∨ (W0.heap.size ≤ p1 ∧ W0.heap.size ≤ g1 ∧ W0.heap.size ≤ m1)) ∧ Kept (fun b => b = b2) W0 W ∧ l1 ≠ []
theorem mid_same {W0 W : World} {b2 p g m cap : Nat} {L lr : List A2} (hE : Ext W0 W) (hb : W0.heap[b2]? = some (rec27 p lr.length (firsts lr).length (sumW lr) (sumW (mergeL lr)))) (hL : LogAt W0 p g m cap L) (he : L = lr) (hne : lr ≠ []) : Mid W0 b2 p g m L lr W := by
  subst he
  exact ⟨p, g, m, cap, L, (hE.block _ (Array.getElem?_eq_some_iff.1 hb).1).trans hb, hL.ext hE, Like.refl _, Nat.le_refl _, Or.inl ⟨rfl, rfl, rfl, rfl, rfl⟩, hE.kept _, hne⟩
theorem Kept.set5 (W : World) (b : Nat) (a0 a1 a2 a3 a4 : Value) : Kept (fun i => i = b) W (Qxb6618064a.set5 W b a0 a1 a2 a3 a4) :=
  ((((Kept.of_set (a := W) (p := b) a0).trans (Kept.of_set a1) (fun _ _ h => h)).trans (Kept.of_set a2) (fun _ _ h => h)).trans (Kept.of_set a3) (fun _ _ h => h)).trans (Kept.of_set a4) (fun _ _ h => h)
theorem mid_new {W0 W1 W2 W3 : World} {b2 p g m p1 g1 m1 cap1 : Nat} {L lr : List A2} {o : Obj} {b0 b1 b3 b4 b5 : Value} (hE1 : Ext W0 W1) (hX : XS W1 W2 p1 g1 m1 cap1 (mergeL lr)) (hE : Ext (W2.alloc o) W3) (q : Nat) (hb : W0.heap[b2]? = some (.cells #[b0, b1, b3, b4, b5] 27 (0, 0)))
    (hL : LogAt W3 q g1 m1 cap1 (mergeL lr)) (hq : (W2.alloc o).heap.size ≤ q) (hne : lr ≠ []) : Mid W0 b2 p g m L lr (set5 W3 b2 (.pointer (some ⟨q, 0, none⟩)) (.int .i64 (mergeL lr).length) (.int .i64 (mergeL lr).length) (.int .i64 (sumW (mergeL lr))) (.int .i64 (sumW (mergeL lr)))) := by
  have hlt := (Array.getElem?_eq_some_iff.1 hb).1
  have hs1 := hE1.size
  have hs2 := hX.below.size
  have hs3 : (W2.alloc o).heap.size = W2.heap.size + 1 := by simp
  have hs4 := hE.size
  have hg := hX.lg
  have hm := hX.lm
  have hB3 : Below W0.heap.size W0 W3 := (hE1.below.trans (hX.below.mono hs1)).trans ((((Ext.refl W2).alloc o).trans hE).below.mono (by omega))
  have hb3 := (hB3.block b2 hlt).trans hb
  have f1 : (firsts (mergeL lr)).length = (mergeL lr).length := by rw [(Like.merged lr).names, merge_len]
  refine ⟨q, g1, m1, cap1, mergeL lr, ?_, hL.block (set5_other (by omega)) (set5_other (by omega)) (set5_other (by omega)), Like.merged lr, sumW_merge_le lr, Or.inr ⟨by omega, by omega, by omega⟩, ?_, merge_ne hne⟩
  · rw [set5_same hb3, f1, merge_merge]
  · exact (Kept.mono (F := fun _ => False) ⟨hB3.os, hB3.tape, hB3.output, hB3.size, fun b hb _ => hB3.block b hb⟩ (fun _ _ h => h.elim)).trans (Kept.set5 W3 b2 _ _ _ _ _) (fun _ _ h => h)

/-- the loop's world: k of s's attributes are in -/
def Lp (S : World) (b2 p1 g1 m1 n : Nat) (Lk : List A2) (W : World) : Prop := ∃ g cap, W.heap[b2]? = some (rec27 p1 n (firsts Lk).length (sumW Lk) (sumW (mergeL Lk))) ∧ LogAt W p1 g m1 cap Lk ∧ (g = g1 ∨ S.heap.size ≤ g) ∧ Kept (fun b => In3 p1 g1 m1 b ∨ b = b2) S W
def ThenRaw (w W : World) (p g m : Nat) (L lr ls : List A2) (e : Ending) : Prop := ∃ p1 g1 m1 l1 g' cap', Like l1 lr ∧ sumW l1 ≤ sumW lr ∧ l1 ≠ [] ∧
  ((p1 = p ∧ g1 = g ∧ m1 = m ∧ l1 = lr ∧ L = lr) ∨ (w.heap.size ≤ p1 ∧ w.heap.size ≤ g1 ∧ w.heap.size ≤ m1)) ∧ LogAt W p1 g' m1 cap' (l1 ++ ls) ∧ (g' = g1 ∨ w.heap.size ≤ g') ∧ Kept (In3 p1 g1 m1) w W ∧
  ((e = .returned (recL (some p1) (l1 ++ ls)) ∧ sumW (l1 ++ ls) ≤ 2 * sumW (mergeL (l1 ++ ls))) ∨
   (∃ p2 g2 m2 cap2, e = .returned (recL (some p2) (mergeL (l1 ++ ls))) ∧ LogAt W p2 g2 m2 cap2 (mergeL (l1 ++ ls)) ∧ (∀ i, In3 p2 g2 m2 i → w.heap.size ≤ i ∧ ¬ In3 p1 g' m1 i)))

theorem rec_ne {w : World} {b p g m cap : Nat} {L : List A2} {a0 a1 a2 a3 a4 : Value} (hb : w.heap[b]? = some (.cells #[a0, a1, a2, a3, a4] 27 (0, 0))) (h : LogAt w p g m cap L) : ¬ In3 p g m b := by
  rintro (rfl | rfl | rfl)
  · rw [h.hp] at hb
    injection hb with hb
    injection hb with _ hb
    exact absurd hb (by decide)
  · obtain ⟨c, hc, _⟩ := h.buf
    rw [hc] at hb
    injection hb with hb
    injection hb with _ hb
    exact absurd hb (by decide)
  · obtain ⟨c, hm⟩ := h.mp
    obtain ⟨es, k, hm⟩ := hm.isMap
    rw [hm] at hb
    injection hb with hb
    cases hb
theorem ok_false {L : List A2} {s : ByteArray} (h : (lastIL L s).isSome = false) : lastI L s = none := by
  unfold lastIL at h
  cases e : lastI L s with
  | none => rfl
  | some j => rw [e] at h; cases h
theorem ok_true {L : List A2} {s : ByteArray} (h : (lastIL L s).isSome = true) : ∃ j, lastI L s = some j := by
  unfold lastIL at h
  cases e : lastI L s with
  | none => rw [e] at h; cases h
  | some j => exact ⟨j, rfl⟩
/-- behind the lookup: the names and the live bytes reckoned -/
def Half (V : World) (b2 p1 n : Nat) (Lk : List A2) (x : A2) (W : World) : Prop := ∃ lv' : Nat, W.heap[b2]? = some (rec27 p1 n (firsts (Lk ++ [x])).length (sumW Lk) lv') ∧ lv' + wt1 x = sumW (mergeL (Lk ++ [x])) ∧ Kept (fun b => b = b2) V W
theorem half_new {V V1 : World} {b2 p1 n : Nat} {Lk : List A2} {x : A2} (hE : Ext V V1) (hb : V.heap[b2]? = some (rec27 p1 n (firsts Lk).length (sumW Lk) (sumW (mergeL Lk)))) (hn : lastI Lk x.1 = none) :
    Half V b2 p1 n Lk x (V1.setCell ⟨b2, 2, none⟩ (.int .i64 ((firsts Lk).length + 1 : Nat))) := by
  have hb1 := (hE.block _ (Array.getElem?_eq_some_iff.1 hb).1).trans hb
  refine ⟨sumW (mergeL Lk), ?_, ?_, (hE.kept _).trans (Kept.of_set _) (fun _ _ h => h)⟩
  · rw [heap_set_same hb1, names_len_new hn]
    simp
  · exact (live_new wt1 (l := Lk) (a := x) hn).symm
theorem live_ge {Lk : List A2} {x y : A2} {j : Nat} (hj : lastI Lk x.1 = some j) (hy : Lk[j]? = some y) : wt1 y ≤ sumW (mergeL Lk) := by
  obtain ⟨v, h1, h2⟩ := lastI_spec Lk _ _ hj
  have hye : y = (x.1, v) := by
    have := hy.symm.trans h1
    injection this
  have hmem : x.1 ∈ firsts Lk := by
    apply Classical.byContradiction
    intro hc
    rw [(lastI_none Lk x.1).2 hc] at hj
    cases hj
  refine sumW_mem ?_
  have : (x.1, lv Lk x.1) ∈ mergeL Lk := List.mem_map.2 ⟨x.1, hmem, rfl⟩
  have hlv : lv Lk x.1 = v := by unfold lv; rw [h2]; rfl
  rw [hlv] at this
  rw [hye]
  exact this
theorem half_old {V V1 : World} {b2 p1 n j : Nat} {Lk : List A2} {x y : A2} (hE : Ext V V1) (hb : V.heap[b2]? = some (rec27 p1 n (firsts Lk).length (sumW Lk) (sumW (mergeL Lk)))) (hj : lastI Lk x.1 = some j) (hy : Lk[j]? = some y) :
    Half V b2 p1 n Lk x (V1.setCell ⟨b2, 4, none⟩ (.int .i64 ((sumW (mergeL Lk) : Int) - wt1 y))) := by
  have hb1 := (hE.block _ (Array.getElem?_eq_some_iff.1 hb).1).trans hb
  have hge := live_ge hj hy
  have hlo := live_old wt1 (l := Lk) (a := x) hj hy
  refine ⟨sumW (mergeL Lk) - wt1 y, ?_, ?_, (hE.kept _).trans (Kept.of_set _) (fun _ _ h => h)⟩
  · have e : ((sumW (mergeL Lk) : Int) - wt1 y) = ((sumW (mergeL Lk) - wt1 y : Nat) : Int) := by omega
    rw [heap_set_same hb1, names_len_old hj, e]
    simp
  · have e1 : sumW (mergeL (Lk ++ [x])) + wt1 y = sumW (mergeL Lk) + wt1 x := hlo
    omega
/-- one field of a record set, behind a call that only reads -/
def Stp (b o : Nat) (v : Value) (W W' : World) : Prop := ∃ W1, Ext W W1 ∧ W' = W1.setCell ⟨b, o, none⟩ v
theorem Stp.kept {b o : Nat} {v : Value} {W W' : World} (h : Stp b o v W W') : Kept (fun i => i = b) W W' := by
  obtain ⟨W1, hE, rfl⟩ := h
  exact (hE.kept _).trans (Kept.of_set _) (fun _ _ h => h)
theorem Stp.s3 {b : Nat} {v : Value} {W W' : World} (h : Stp b 3 v W W') {a0 a1 a2 a3 a4 : Value} (hb : W.heap[b]? = some (.cells #[a0, a1, a2, a3, a4] 27 (0, 0))) : W'.heap[b]? = some (.cells #[a0, a1, a2, v, a4] 27 (0, 0)) := by
  obtain ⟨W1, hE, rfl⟩ := h
  rw [heap_set_same ((hE.block _ (Array.getElem?_eq_some_iff.1 hb).1).trans hb)]
  simp
theorem Stp.s4 {b : Nat} {v : Value} {W W' : World} (h : Stp b 4 v W W') {a0 a1 a2 a3 a4 : Value} (hb : W.heap[b]? = some (.cells #[a0, a1, a2, a3, a4] 27 (0, 0))) : W'.heap[b]? = some (.cells #[a0, a1, a2, a3, v] 27 (0, 0)) := by
  obtain ⟨W1, hE, rfl⟩ := h
  rw [heap_set_same ((hE.block _ (Array.getElem?_eq_some_iff.1 hb).1).trans hb)]
  simp

theorem wrap_in (n : Int) (h : -9223372036854775808 ≤ n ∧ n ≤ 9223372036854775807) : IntKind.i64.wrap n = n := by rw [IntKind.wrap_i64]; omega
/-- a round's end -/
theorem lp_next {S wr V W1 W2 W4 W5 : World} {b2 p1 g1 m1 n g' g2 cap2 : Nat} {Lk Lk' : List A2} {x : A2} {lv' : Nat} (e : Lk' = Lk ++ [x]) (hK : Kept (fun b => In3 p1 g1 m1 b ∨ b = b2) S wr) (hEV : Ext wr V) (hkH : Kept (fun b => b = b2) V W1) (hK2 : Kept (In3 p1 g' m1) W1 W2) (h3 : Stp b2 3 (.int .i64 ((sumW Lk : Int) + wt1 x)) W2 W4) (h4 : Stp b2 4 (.int .i64 ((lv' : Int) + wt1 x)) W4 W5)
    (hb : W2.heap[b2]? = some (rec27 p1 n (firsts (Lk ++ [x])).length (sumW Lk) lv')) (hlv : lv' + wt1 x = sumW (mergeL (Lk ++ [x]))) (hL : LogAt W2 p1 g2 m1 cap2 (Lk ++ [x])) (hg' : g' = g1 ∨ S.heap.size ≤ g') (hg2 : g2 = g' ∨ W1.heap.size ≤ g2) :
    Lp S b2 p1 g1 m1 n Lk' W5 := by
  subst e
  have hn2 := rec_ne hb hL
  have hL5 : LogAt W5 p1 g2 m1 cap2 (Lk ++ [x]) := (hL.kept h3.kept (fun i hi e => hn2 (by rw [← e]; exact hi))).kept h4.kept (fun i hi e => hn2 (by rw [← e]; exact hi))
  have hb5 := h4.s4 (h3.s3 hb)
  have s1 := hK.size
  have s2 := hEV.size
  have s3 := hkH.size
  refine ⟨g2, cap2, ?_, hL5, ?_, ?_⟩
  · rw [hb5, ← hlv, sumW_append]
    simp [sumW, wt]
  · rcases hg2 with e | e
    · rw [e]; exact hg'
    · exact Or.inr (by omega)
  · refine ((((hK.trans (hEV.kept fun _ => False) (fun _ _ h => h.elim)).trans hkH (fun _ _ h => Or.inr h)).trans hK2 (fun i hi h => ?_)).trans h3.kept (fun _ _ h => Or.inr h)).trans h4.kept (fun _ _ h => Or.inr h)
    rcases h with h | h | h
    · exact Or.inl (Or.inl h)
    · rcases hg' with e | e
      · exact Or.inl (Or.inr (Or.inl (h.trans e)))
      · omega
    · exact Or.inl (Or.inr (Or.inr h))
theorem Below.kept' {a b : World} (h : Below a.heap.size a b) (F : Nat → Prop) : Kept F a b := ⟨h.os, h.tape, h.output, h.size, fun i hi _ => h.block i hi⟩
def Who (w : World) (p g m p1 g1 m1 : Nat) (L lr l1 : List A2) : Prop := (p1 = p ∧ g1 = g ∧ m1 = m ∧ l1 = lr ∧ L = lr) ∨ (w.heap.size ≤ p1 ∧ w.heap.size ≤ g1 ∧ w.heap.size ≤ m1)
theorem fin_same {w wr W : World} {p g m p1 g1 m1 g' cap' : Nat} {L lr ls l1 : List A2} (hlike : Like l1 lr) (hsum : sumW l1 ≤ sumW lr) (hne : l1 ≠ []) (hw : Who w p g m p1 g1 m1 L lr l1) (hg : g' = g1 ∨ w.heap.size ≤ g') (hkw : Kept (In3 p1 g1 m1) w wr) (hL : LogAt wr p1 g' m1 cap' (l1 ++ ls))
    (hk : Kept (fun b => b = w.heap.size ∨ b = w.heap.size + 1 + 1) wr W) (n2 : ¬ In3 p1 g' m1 w.heap.size) (n4 : ¬ In3 p1 g' m1 (w.heap.size + 1 + 1)) (hh : sumW (l1 ++ ls) ≤ 2 * sumW (mergeL (l1 ++ ls))) : ThenRaw w W p g m L lr ls (.returned (recL (some p1) (l1 ++ ls))) := by
  refine ⟨p1, g1, m1, l1, g', cap', hlike, hsum, hne, hw, hL.kept hk ?_, hg, hkw.trans hk (fun i hi h => by omega), Or.inl ⟨rfl, hh⟩⟩
  rintro i hi (rfl | rfl)
  · exact n2 hi
  · exact n4 hi
theorem fin_new {w wr W : World} {p g m p1 g1 m1 g' cap' q g5 m5 cap5 : Nat} {L lr ls l1 : List A2} (hlike : Like l1 lr) (hsum : sumW l1 ≤ sumW lr) (hne : l1 ≠ []) (hw : Who w p g m p1 g1 m1 L lr l1) (hg : g' = g1 ∨ w.heap.size ≤ g') (hkw : Kept (In3 p1 g1 m1) w wr) (hL : LogAt wr p1 g' m1 cap' (l1 ++ ls))
    (hk : Kept (fun b => b = w.heap.size ∨ b = w.heap.size + 1 + 1) wr W) (n2 : ¬ In3 p1 g' m1 w.heap.size) (n4 : ¬ In3 p1 g' m1 (w.heap.size + 1 + 1)) (hq : LogAt W q g5 m5 cap5 (mergeL (l1 ++ ls))) (q1 : wr.heap.size ≤ q) (q2 : wr.heap.size ≤ g5) (q3 : wr.heap.size ≤ m5) : ThenRaw w W p g m L lr ls (.returned (recL (some q) (mergeL (l1 ++ ls)))) := by
  refine ⟨p1, g1, m1, l1, g', cap', hlike, hsum, hne, hw, hL.kept hk ?_, hg, hkw.trans hk (fun i hi h => by omega), Or.inr ⟨q, g5, m5, cap5, rfl, hq, fun i hi => ?_⟩⟩
  · rintro i hi (rfl | rfl)
    · exact n2 hi
    · exact n4 hi
  · have h1 := hkw.size
    have h2 := hL.lt
    unfold In3 at hi ⊢
    omega

set_option maxRecDepth 100000 in
set_option maxHeartbeats 4000000 in
theorem then_raw (p g m cap : Nat) (L lr : List A2) (ps gs ms caps : Nat) (Lx ls : List A2) (w : World) (hL : LogAt w p g m cap L) (hlr : lr <+: L) (hrn : lr ≠ []) (hsL : sumW L ≤ 1048576) (hX : LogAt w ps gs ms caps Lx) (hls : ls <+: Lx) (hsn : ls ≠ []) (hsX : sumW Lx ≤ 1048576) (hdj : ¬ In3 p g m gs) (hs : sumW lr + sumW ls ≤ 1048576) :
    Calls Try.prog 26 #[recL (some p) lr, recL (some ps) ls] w fun e w' => ThenRaw w w' p g m L lr ls e := by
  have hE0 : Ext w (((w.alloc (rec27 p lr.length (firsts lr).length (sumW lr) (sumW (mergeL lr)))).alloc (rec27 ps ls.length (firsts ls).length (sumW ls) (sumW (mergeL ls)))).alloc zero27) := (((Ext.refl w).alloc _).alloc _).alloc _
  obtain ⟨d2, d3, d4⟩ := al3' w (rec27 p lr.length (firsts lr).length (sumW lr) (sumW (mergeL lr))) (rec27 ps ls.length (firsts ls).length (sumW ls) (sumW (mergeL ls))) zero27
  have hL0 := hL.ext hE0
  have hX0 := hX.ext hE0
  have r32 := len_le_sumW lr
  have s32 := len_le_sumW ls
  have L32 := len_le_sumW L
  have x32 := len_le_sumW Lx
  have rle := hlr.length_le
  have sle := hls.length_le
  have rpos : 0 < lr.length := List.length_pos_iff.2 hrn
  have spos : 0 < ls.length := List.length_pos_iff.2 hsn
  have rnz : ((lr.length : Int) == 0) = false := by simp; omega
  have snz : ((ls.length : Int) == 0) = false := by simp; omega
  have HLt : Hid _ := hL.lt
  have HXt : Hid _ := hX.lt
  have HLr : Hid _ := hlr
  have HLs : Hid _ := hls
  have HLn : Hid _ := hrn
  have HSn : Hid _ := hsn
  have HD : Hid _ := hdj
  have HL0 : Hid _ := hL0
  have HX0 : Hid _ := hX0
  have D2 : Hid _ := d2
  have D3 : Hid _ := d3
  have D4 : Hid _ := d4
  have hsz : (((w.alloc (rec27 p lr.length (firsts lr).length (sumW lr) (sumW (mergeL lr)))).alloc (rec27 ps ls.length (firsts ls).length (sumW ls) (sumW (mergeL ls)))).alloc zero27).heap.size = w.heap.size + 1 + 1 + 1 := by simp
  clear hL hX hlr hls hrn hsn hL0 hX0 d2 d3 d4 hdj
  go_enter Try.func26, Try.ntmps26
  go_upto_block 0 with fail
  change Code.wp _ _ _ _ (((w.alloc (rec27 p lr.length (firsts lr).length (sumW lr) (sumW (mergeL lr)))).alloc (rec27 ps ls.length (firsts ls).length (sumW ls) (sumW (mergeL ls)))).alloc zero27)
  generalize ((w.alloc (rec27 p lr.length (firsts lr).length (sumW lr) (sumW (mergeL lr)))).alloc (rec27 ps ls.length (firsts ls).length (sumW ls) (sumW (mergeL ls)))).alloc zero27 = W0 at *
  go_cut [] (fun W => Mid W0 w.heap.size p g m L lr W)
  case first =>
    obtain ⟨y0, y1, y2, y3, y4, yf, yl⟩ := cells27 D2.out
    obtain ⟨z0, z1, z2, z3, z4, zf, zl⟩ := cells27 D3.out
    obtain ⟨c0, c1, cf⟩ := HL0.out.cells
    have cl := HL0.out.lt.1
    by_cases hsame : L.length = lr.length
    · have hLe : L = lr := by rw [← prefix_take HLr.out, ← hsame, List.take_length]
      have hmid : ∀ W, Ext W0 W → Mid W0 w.heap.size p g m L lr W := fun W hE => mid_same hE D2.out HL0.out hLe HLn.out
      have HM : Hid _ := hmid
      rw [hsame] at c0
      clear hmid hLe hsame
      generalize lr.length = nr at *
      generalize ls.length = ns at *
      go_wp2
      go_big_region
      go_wp2_with fail
      go_meet
      exact HM.out _ (Ext.refl _).drew
    · have hne : ((lr.length : Int) == (L.length : Int)) = false := by simp; omega
      have hne2 : ((lr.length : Int) != (L.length : Int)) = true := by simp; omega
      have hLd := HL0.out.ext (Ext.refl W0).drew
      have HLd : Hid _ := hLd
      have hLle := L32
      clear hsame
      generalize hnL : L.length = nL at *
      generalize hnr : lr.length = nr at *
      have HNL : Hid _ := hnL
      have HNR : Hid _ := hnr
      clear hnL hnr hLd
      generalize ls.length = ns at *
      go_wp2
      go_big_region
      go_wp2_with (go_at_call 27; refine (given_any p g m cap L nr (firsts lr).length (sumW lr) (sumW (mergeL lr)) W0.drew HLd.out (by rw [HNL.out]; exact rle) rpos (by rw [HNL.out]; omega)).mono ?_; rintro e W1 ⟨rfl, hE1⟩)
      have hE1' : Ext W0 W1 := (Ext.refl W0).drew.trans hE1
      have hbl : (W1.alloc (.cells #[.slice (some ⟨g, 0, none⟩) nr nr] 29 (0, 0))).cell? ⟨W1.heap.size, 0, none⟩ = some (.slice (some ⟨g, 0, none⟩) nr nr) := by
        have := heap_alloc_new W1 (.cells #[.slice (some ⟨g, 0, none⟩) nr nr] 29 (0, 0))
        unfold World.cell?
        simp only [this]
        rfl
      have hE1'' : Ext W0 (W1.alloc (.cells #[.slice (some ⟨g, 0, none⟩) nr nr] 29 (0, 0))) := hE1'.alloc _
      have hrow : RowO (W1.alloc (.cells #[.slice (some ⟨g, 0, none⟩) nr nr] 29 (0, 0))) (some ⟨g, 0, none⟩) lr := Or.inr ⟨g, 0, rfl, (HL0.out.ext hE1'').buf.row.pre HLr.out⟩
      have HBL : Hid _ := hbl
      have HROW : Hid _ := hrow
      have HE1 : Hid (Ext W0 (W1.alloc (.cells #[.slice (some ⟨g, 0, none⟩) nr nr] 29 (0, 0)))) := hE1''
      clear hbl hrow hE1 hE1' hE1''
      go_wp2_with (go_at_call 24; refine (mrg_any W1.heap.size (some ⟨g, 0, none⟩) nr nr lr (W1.alloc (.cells #[.slice (some ⟨g, 0, none⟩) nr nr] 29 (0, 0))) (by omega) HNR.out HBL.out HROW.out (sizes_of (by omega))).mono ?_; rintro e W2 ⟨p1, g1, m1, cp1, rfl, hX1⟩)
      have hV := hX1.lgo.again
      have hms := sumW_merge_le lr
      refine (records_o W2.heap.size g1 m1 cp1 (mergeL lr) _ hV (by omega)).mono ?_
      rintro e W3 ⟨po, rfl, hE3, hrec⟩
      rcases hrec with ⟨hnil, _⟩ | ⟨_, q, rfl, hq, hql⟩
      · exact absurd hnil (merge_ne HLn.out)
      have hmid := mid_new (p := p) (g := g) (m := m) (L := L) HE1.out hX1 hE3 q D2.out hq hql HLn.out
      have hzz : W3.heap[w.heap.size]? = some (rec27 p nr (firsts lr).length (sumW lr) (sumW (mergeL lr))) := by
        have h1 := (HE1.out.block _ (Array.getElem?_eq_some_iff.1 D2.out).1).trans D2.out
        have h2 := (hX1.below.block _ (Array.getElem?_eq_some_iff.1 h1).1).trans h1
        exact ((((Ext.refl W2).alloc _).trans hE3).block _ (Array.getElem?_eq_some_iff.1 h2).1).trans h2
      clear y0 y1 y2 y3 y4 yf yl
      obtain ⟨y0, y1, y2, y3, y4, yf, yl⟩ := cells27 hzz
      have HM : Hid _ := hmid
      clear hmid hzz hX1 hE3 hV hq
      go_wp2_with fail
      go_meet
      exact HM.out
  case rest =>
    obtain ⟨p1, g1, m1, cap1, l1, hb2, hlog, hlike, hsum, hwho, hkept, hne1⟩ := hcut
    have HXt' := HXt.out
    have hb3 := (hkept.block (w.heap.size + 1) (by omega) (by omega)).trans D3.out
    have hb4 := (hkept.block (w.heap.size + 1 + 1) (by omega) (by omega)).trans D4.out
    have hxl := HX0.out.kept hkept (by rintro i (rfl | rfl | rfl) <;> omega)
    obtain ⟨z0, z1, z2, z3, z4, zf, zl⟩ := cells27 hb3
    have hgiv := given_any ps gs ms caps Lx ls.length (firsts ls).length (sumW ls) (sumW (mergeL ls)) wc hxl sle spos (by omega)
    have HG : Hid (Calls Try.prog 27 #[recV ps ls.length (firsts ls).length (sumW ls) (sumW (mergeL ls))] wc fun e w' => e = .returned (.slice (some ⟨gs, 0, none⟩) ls.length ls.length) ∧ Ext wc w') := hgiv
    clear hgiv
    generalize hnsd : ls.length = ns at *
    have HNS : Hid _ := hnsd
    clear hnsd
    go_wp2_with (go_at_call 27; refine HG.out.mono ?_; rintro e S ⟨rfl, hES⟩)
    have hb2S := (hES.block _ (Array.getElem?_eq_some_iff.1 hb2).1).trans hb2
    have hlogS := hlog.ext hES
    have hxlS := hxl.ext hES
    have hb4S := (hES.block _ (Array.getElem?_eq_some_iff.1 hb4).1).trans hb4
    have hkS : Kept (fun b => b = w.heap.size) W0 S := hkept.trans (hES.kept fun _ => False) (fun _ _ h => h.elim)
    have hgsn : ¬ In3 p1 g1 m1 gs := by
      rcases hwho with ⟨rfl, rfl, rfl, _⟩ | hh
      · exact HD.out
      · unfold In3; omega
    have HB2 : Hid _ := hb2S
    have HLg : Hid _ := hlogS
    have HXl : Hid _ := hxlS
    have HB4 : Hid _ := hb4S
    have HKS : Hid _ := hkS
    have HGN : Hid _ := hgsn
    have HLike : Hid _ := hlike
    have HW : Hid _ := hwho
    have hl32 := len_le_sumW l1
    clear hb2 hb3 hb4 hxl hlog hES hkept hb2S hlogS hxlS hb4S hkS hgsn hlike hwho z0 z1 z2 z3 z4 zf zl HG
    go_wp2
    go_loopw [39] (fun v39 wr => ∃ k : Nat, k ≤ ns ∧ v39 = .int .i64 k ∧ Lp S w.heap.size p1 g1 m1 l1.length (l1 ++ ls.take k) wr) (fun v39 _ => ns - (intOf v39).toNat)
    case atStart => exact ⟨0, by omega, rfl, g1, cap1, by simpa using HB2.out, by simpa using HLg.out, Or.inl rfl, (Ext.refl S).kept _⟩
    case round =>
      obtain ⟨k, hk, rfl, g', cap', hb, hlg, hg', hK⟩ := hrel
      by_cases hlt : k < ns
      · have hx : ls[k]? = some (ls[k]'(by rw [HNS.out]; exact hlt)) := List.getElem?_eq_getElem _
        generalize ls[k]'(by rw [HNS.out]; exact hlt) = x at hx
        have hxX : Lx[k]? = some x := by
          have := prefix_take HLs.out
          rw [← this, List.getElem?_take] at hx
          split at hx
          · exact hx
          · cases hx
        have hgsb : gs ≠ w.heap.size := by omega
        have hbuf := HXl.out.buf.block (hK.block gs HXl.out.lt.2.1 (fun h => h.elim HGN.out hgsb))
        obtain ⟨a0, a1⟩ := hbuf.cell hxX
        have hbl := hbuf.lt
        have hxm : wt1 x ≤ sumW ls := wt1_le hx
        have hx1 : x.1.size ≤ 1048576 := by unfold wt1 at hxm; omega
        have hx2 : x.2.size ≤ 1048576 := by unfold wt1 at hxm; omega
        have hlkl : (l1 ++ ls.take k).length ≤ 400000 := by rw [List.length_append, List.length_take]; omega
        have hlks : sumW (l1 ++ ls.take k) + wt1 x ≤ 1048576 := by
          have h1 := sumW_take hx
          have h2 := sumW_le (l := ls) (k + 1)
          rw [sumW_append]
          omega
        have hsnoc : l1 ++ ls.take (k + 1) = (l1 ++ ls.take k) ++ [x] := by rw [take_snoc hx, List.append_assoc]
        have HSN : Hid _ := hsnoc
        clear hbuf hx hxX hsnoc
        generalize l1 ++ ls.take k = Lk at *
        have hEV : Ext wr (wr.alloc (box2 56 x)) := (Ext.refl wr).alloc _
        have hbV := (hEV.block _ (Array.getElem?_eq_some_iff.1 hb).1).trans hb
        have hlV := hlg.ext hEV
        have hxV := heap_alloc_new wr (box2 56 x)
        have hwl : wr.heap.size < (wr.alloc (box2 56 x)).heap.size := by simp
        go_upto_region 11 with fail
        change Code.wp _ _ _ _ (wr.alloc (box2 56 x))
        generalize wr.alloc (box2 56 x) = V at *
        obtain ⟨y0, y1, y2, y3, y4, yf, yl⟩ := cells27 hbV
        obtain ⟨c0, c1, cf⟩ := hlV.cells
        obtain ⟨b0, b1⟩ := boxed2 hxV
        have hlt3 := hlV.lt
        obtain ⟨cc, hM⟩ := (hlV.ext (Ext.refl V).drew).mp
        obtain ⟨i, hrun, hval⟩ := hM.run_look (t := 40) Try.underlying40 Try.underlying3 (zero3 _) (s := x.1) (by unfold maxLen; omega)
        generalize hok : (lastIL Lk x.1).isSome = ok at hrun
        have HOK : Hid _ := hok
        clear hok
        have HBV : Hid _ := hbV
        have HLV : Hid _ := hlV
        have HXV : Hid _ := hxV
        have HVAL : Hid _ := hval
        have HKW : Hid _ := hK
        have HLG : Hid _ := hlg
        have HGP : Hid _ := hg'
        have HEV : Hid (Ext wr V) := hEV
        have hbwr : w.heap.size < wr.heap.size := (Array.getElem?_eq_some_iff.1 hb).1
        have hltw := hlg.lt
        clear hM hval hbV hlV hxV hK hlg hg' hEV hb
        go_big_region
        clear hrun
        go_upto_if 54 with fail
        go_cut [] (fun W => Half V w.heap.size p1 l1.length Lk x W)
        case first =>
          cases ok with
          | false =>
            have HN : Hid _ := ok_false HOK.out
            have hfn : (firsts Lk).length ≤ 400000 := Nat.le_trans (firsts_le Lk) hlkl
            have hhalf : ∀ V1, Ext V V1 → Half V w.heap.size p1 l1.length Lk x (V1.setCell ⟨w.heap.size, 2, none⟩ (.int .i64 ((firsts Lk).length + 1 : Nat))) := fun V1 hE => half_new hE HBV.out HN.out
            have HH : Hid (∀ V1, Ext V V1 → Half V w.heap.size p1 l1.length Lk x (V1.setCell ⟨w.heap.size, 2, none⟩ (.int .i64 ((firsts Lk).length + 1 : Nat)))) := hhalf
            clear hhalf
            generalize (firsts Lk).length = fn at *
            go_wp2_with fail
            go_meet
            exact HH.out _ (Ext.refl V).drew
          | true =>
            obtain ⟨j, hla⟩ := ok_true HOK.out
            have hij : i = j := by
              have := HVAL.out _ (lastIL_some hla)
              injection this with _ this
              exact this.symm
            subst hij
            obtain ⟨v, hyv, _⟩ := lastI_spec _ _ _ hla
            generalize hyy : (x.1, v) = y at hyv
            clear hyy
            have hhalf : ∀ V1, Ext V V1 → Half V w.heap.size p1 l1.length Lk x (V1.setCell ⟨w.heap.size, 4, none⟩ (.int .i64 ((sumW (mergeL Lk) : Int) - wt1 y))) := fun V1 hE => half_old hE HBV.out hla hyv
            have HH : Hid (∀ V1, Ext V V1 → Half V w.heap.size p1 l1.length Lk x (V1.setCell ⟨w.heap.size, 4, none⟩ (.int .i64 ((sumW (mergeL Lk) : Int) - wt1 y)))) := hhalf
            have hge := live_ge hla hyv
            have hle := sumW_merge_le Lk
            have hyw := wt1_le hyv
            have hy1 : y.1.size ≤ 1048576 := by unfold wt1 at hyw; omega
            have hy2 : y.2.size ≤ 1048576 := by unfold wt1 at hyw; omega
            obtain ⟨e0, e1⟩ := HLV.out.buf.cell hyv
            have hjl := (List.getElem?_eq_some_iff.1 hyv).1
            have hjl2 : (j : Int) < (Lk.length : Int) := by omega
            clear hhalf hla hyv
            generalize sumW (mergeL Lk) = live at *
            generalize Lk.length = nk at *
            go_wp2_with fail
            go_region_with (go_at_call 30; refine (heldSize_any y _ hy1 hy2).mono ?_; rintro e w5 ⟨rfl, hE5⟩; obtain ⟨q0, q1, q2, q3, q4, qf, ql⟩ := cells27 ((hE5.block _ yl).trans HBV.out))
            all_goals
              (go_wp2_with fail
               go_meet
               rw [wrap_in _ (by omega)]
               exact HH.out _ ((Ext.refl V).drew.drew.trans hE5))
        case rest =>
          obtain ⟨lv', hbH, hlvH, hkH⟩ := hcut
          have hmb : lv' ≤ 1048576 := by
            have h1 := sumW_merge_le (Lk ++ [x])
            rw [sumW_append, show sumW [x] = wt1 x by simp [sumW, wt]] at h1
            omega
          have hn2 := rec_ne HBV.out HLV.out
          have hlH : LogAt wc p1 g' m1 cap' Lk := HLV.out.kept hkH (fun i hi e => hn2 (by rw [← e]; exact hi))
          have hxH := (hkH.block wr.heap.size hwl (by omega)).trans HXV.out
          clear y0 y1 y2 y3 y4 yf yl c0 c1 cf b0 b1
          obtain ⟨y0, y1, y2, y3, y4, yf, yl⟩ := cells27 hbH
          obtain ⟨b0, b1⟩ := boxed2 hxH
          have hxl := (Array.getElem?_eq_some_iff.1 hxH).1
          have HLH : Hid (LogAt wc p1 g' m1 cap' Lk) := hlH
          have HBH : Hid _ := hbH
          have HXH : Hid _ := hxH
          have HKH : Hid _ := hkH
          have HN2 : Hid (¬ In3 p1 g' m1 w.heap.size) := hn2
          clear hlH hbH hxH hkH hn2
          obtain ⟨W1, hWe⟩ : ∃ W1 : World, W1 = wc := ⟨_, rfl⟩
          subst hWe
          go_wp2_with (go_at_call 31; refine (add_any p1 g' m1 cap' Lk x _ HLH.out hlkl (by unfold maxLen; omega)).mono ?_; rintro e W2 ⟨⟨vv, rfl⟩, g2, cap2, hlg2, hg2, hK2⟩)
          have hb2' := (hK2.block _ yl HN2.out).trans HBH.out
          have hx2' := (hK2.block _ hxl (by unfold In3; omega)).trans HXH.out
          clear y0 y1 y2 y3 y4 yf yl b0 b1 hxl
          obtain ⟨y0, y1, y2, y3, y4, yf, yl⟩ := cells27 hb2'
          obtain ⟨b0, b1⟩ := boxed2 hx2'
          have hxl := (Array.getElem?_eq_some_iff.1 hx2').1
          have HB2' : Hid _ := hb2'
          have HX2' : Hid _ := hx2'
          have HLG2 : Hid (LogAt W2 p1 g2 m1 cap2 (Lk ++ [x])) := hlg2
          have HG2 : Hid _ := hg2
          have HK2 : Hid (Kept (In3 p1 g' m1) W1 W2) := hK2
          clear hb2' hx2' hlg2 hg2 hK2
          go_cut [] (fun W => Stp w.heap.size 3 (.int .i64 ((sumW Lk : Int) + wt1 x)) W2 W)
          case first =>
            go_region_with (go_at_call 30; refine (heldSize_any x _ hx1 hx2).mono ?_; rintro e w5 ⟨rfl, hE5⟩; obtain ⟨q0, q1, q2, q3, q4, qf, ql⟩ := cells27 ((hE5.block _ yl).trans HB2'.out))
            all_goals
              (go_wp2_with fail
               go_meet
               rw [wrap_in _ (by omega)]
               exact ⟨w5, (Ext.refl W2).drew.trans hE5, rfl⟩)
          case rest =>
            have HS3 : Hid (Stp w.heap.size 3 (.int .i64 ((sumW Lk : Int) + wt1 x)) W2 wc) := hcut
            have hb3' := hcut.s3 HB2'.out
            have hx3' := (hcut.kept.block wr.heap.size hxl (by omega)).trans HX2'.out
            clear y0 y1 y2 y3 y4 yf yl b0 b1 hxl hcut
            obtain ⟨y0, y1, y2, y3, y4, yf, yl⟩ := cells27 hb3'
            obtain ⟨b0, b1⟩ := boxed2 hx3'
            have hxl := (Array.getElem?_eq_some_iff.1 hx3').1
            have HB3' : Hid _ := hb3'
            clear hb3' hx3'
            obtain ⟨W4, hWe⟩ : ∃ W4 : World, W4 = wc := ⟨_, rfl⟩
            subst hWe
            go_wp2_with fail
            go_region_with (go_at_call 30; refine (heldSize_any x _ hx1 hx2).mono ?_; rintro e w5 ⟨rfl, hE5⟩; obtain ⟨q0, q1, q2, q3, q4, qf, ql⟩ := cells27 ((hE5.block _ yl).trans HB3'.out))
            all_goals
              (rw [wrap_in _ (by omega)]
               have hst : Stp w.heap.size 4 (.int .i64 ((lv' : Int) + wt1 x)) W4 (w5.setCell ⟨w.heap.size, 4, none⟩ (.int .i64 ((lv' : Int) + wt1 x))) := ⟨w5, (Ext.refl W4).drew.trans hE5, rfl⟩
               have hlp := lp_next HSN.out HKW.out HEV.out HKH.out HK2.out HS3.out hst HB2'.out hlvH HLG2.out HGP.out HG2.out
               have HLP : Hid _ := hlp
               clear hlp hst q0 q1 q2 q3 q4 qf ql y0 y1 y2 y3 y4 yf b0 b1
               generalize w5.setCell ⟨w.heap.size, 4, none⟩ (.int .i64 ((lv' : Int) + wt1 x)) = W5 at *
               go_wp2
               go_roundw
               case rel => exact ⟨k + 1, by omega, by go_num, HLP.out⟩
               case measure => simp [intOf]; omega)
      · have hkn : k = ns := by omega
        have htk : ls.take k = ls := by rw [hkn, ← HNS.out, List.take_length]
        rw [htk] at hb hlg
        have hb4w := (hK.block _ (Array.getElem?_eq_some_iff.1 HB4.out).1 (by
          have hn4 := rec_ne HB4.out HLg.out
          rintro (h | h)
          · exact hn4 h
          · omega)).trans HB4.out
        have hn2 := rec_ne hb hlg
        have hn4 := rec_ne hb4w hlg
        have hkw : Kept (In3 p1 g1 m1) w wr := ((hE0.kept _).trans HKS.out (fun i hi h => by omega)).trans hK (fun i hi h => by
          rcases h with h | h
          · exact h
          · omega)
        have hgw : g' = g1 ∨ w.heap.size ≤ g' := by
          have h1 := hE0.size
          have h2 := HKS.out.size
          rcases hg' with e | e
          · exact Or.inl e
          · exact Or.inr (by omega)
        have hwho : Who w p g m p1 g1 m1 L lr l1 := by
          have h1 := hE0.size
          rcases HW.out with h | h
          · exact Or.inl h
          · exact Or.inr (by omega)
        have hLs : sumW (l1 ++ ls) ≤ 1048576 := by rw [sumW_append]; omega
        have hms := sumW_merge_le (l1 ++ ls)
        have hll := len_le_sumW (l1 ++ ls)
        have hlnn : l1 ++ ls ≠ [] := by simp [hne1]
        obtain ⟨c0, c1, cf⟩ := hlg.cells
        obtain ⟨y0, y1, y2, y3, y4, yf, yl⟩ := cells27 hb
        have hpl := hlg.lt.1
        have hpb : p1 ≠ w.heap.size := fun e => hn2 (Or.inl e.symm)
        have hs1 : Kept (fun b => b = w.heap.size) wr (wr.setCell ⟨w.heap.size, 1, none⟩ (.int .i64 (l1 ++ ls).length)) := Kept.of_set _
        have hb3' : (wr.setCell ⟨w.heap.size, 1, none⟩ (.int .i64 (l1 ++ ls).length)).heap[w.heap.size]? = some (rec27 p1 (l1 ++ ls).length (firsts (l1 ++ ls)).length (sumW (l1 ++ ls)) (sumW (mergeL (l1 ++ ls)))) := by
          rw [heap_set_same hb]
          simp
        have hl3' : LogAt (wr.setCell ⟨w.heap.size, 1, none⟩ (.int .i64 (l1 ++ ls).length)) p1 g' m1 cap' (l1 ++ ls) := hlg.kept hs1 (fun i hi e => hn2 (by rw [← e]; exact hi))
        have hb43 := (hs1.block _ (Array.getElem?_eq_some_iff.1 hb4w).1 (by omega)).trans hb4w
        have hbig0 : ∀ W, Kept (fun b => b = w.heap.size ∨ b = w.heap.size + 1 + 1) wr W → sumW (l1 ++ ls) ≤ 2 * sumW (mergeL (l1 ++ ls)) → ThenRaw w W p g m L lr ls (.returned (recL (some p1) (l1 ++ ls))) := fun W hk hh => fin_same HLike.out hsum hne1 hwho hgw hkw hlg hk hn2 hn4 hh
        have hbig1 : ∀ W q g5 m5 cap5, Kept (fun b => b = w.heap.size ∨ b = w.heap.size + 1 + 1) wr W → LogAt W q g5 m5 cap5 (mergeL (l1 ++ ls)) → wr.heap.size ≤ q → wr.heap.size ≤ g5 → wr.heap.size ≤ m5 → ThenRaw w W p g m L lr ls (.returned (recL (some q) (mergeL (l1 ++ ls)))) := fun W q g5 m5 cap5 hk hq q1 q2 q3 => fin_new HLike.out hsum hne1 hwho hgw hkw hlg hk hn2 hn4 hq q1 q2 q3
        have HBIG0 : Hid (∀ W, Kept (fun b => b = w.heap.size ∨ b = w.heap.size + 1 + 1) wr W → sumW (l1 ++ ls) ≤ 2 * sumW (mergeL (l1 ++ ls)) → ThenRaw w W p g m L lr ls (.returned (recL (some p1) (l1 ++ ls)))) := hbig0
        have HBIG1 : Hid (∀ W q g5 m5 cap5, Kept (fun b => b = w.heap.size ∨ b = w.heap.size + 1 + 1) wr W → LogAt W q g5 m5 cap5 (mergeL (l1 ++ ls)) → wr.heap.size ≤ q → wr.heap.size ≤ g5 → wr.heap.size ≤ m5 → ThenRaw w W p g m L lr ls (.returned (recL (some q) (mergeL (l1 ++ ls))))) := hbig1
        clear hbig0 hbig1 hkw hgw hwho hg' hK hlg hb
        generalize l1 ++ ls = Lf at *
        have HB3' : Hid _ := hb3'
        have HL3' : Hid _ := hl3'
        have HB43 : Hid _ := hb43
        have HS1 : Hid _ := hs1
        clear hb3' hl3' hb43 hs1 hb4w hn2 hn4
        go_upto_region 20 with fail
        change Code.wp _ _ _ _ (wr.setCell ⟨w.heap.size, 1, none⟩ (.int .i64 Lf.length))
        have hw3s : wr.heap.size ≤ (wr.setCell ⟨w.heap.size, 1, none⟩ (.int .i64 Lf.length)).heap.size := HS1.out.size
        generalize wr.setCell ⟨w.heap.size, 1, none⟩ (.int .i64 Lf.length) = W3 at *
        clear y0 y1 y2 y3 y4 yf yl c0 c1 cf
        obtain ⟨y0, y1, y2, y3, y4, yf, yl⟩ := cells27 HB3'.out
        obtain ⟨z0, z1, z2, z3, z4, zf, zl⟩ := cells27 HB43.out
        by_cases hbig : 2 * sumW (mergeL Lf) < sumW Lf
        · have hbi : (2 : Int) * (sumW (mergeL Lf) : Int) < (sumW Lf : Int) := by omega
          have hfl : Lf.length ≤ 200000 := by omega
          have hfp : 0 < Lf.length := List.length_pos_iff.2 hlnn
          have hE3 : ∀ X, Ext W3 X → LogAt X p1 g' m1 cap' Lf := fun X hX => HL3'.out.ext hX
          have HE3 : Hid (∀ X, Ext W3 X → LogAt X p1 g' m1 cap' Lf) := hE3
          clear hE3
          generalize hnf : Lf.length = nf at *
          have HNF : Hid _ := hnf
          clear hnf
          go_wp2_with (go_at_call 27; refine (given_any p1 g' m1 cap' Lf nf (firsts Lf).length (sumW Lf) (sumW (mergeL Lf)) W3 HL3'.out (by rw [HNF.out]; exact Nat.le_refl _) hfp (by rw [HNF.out]; omega)).mono ?_; rintro e W4 ⟨rfl, hE4⟩)
          have hbl : (W4.alloc (.cells #[.slice (some ⟨g', 0, none⟩) nf nf] 29 (0, 0))).cell? ⟨W4.heap.size, 0, none⟩ = some (.slice (some ⟨g', 0, none⟩) nf nf) := by
            have := heap_alloc_new W4 (.cells #[.slice (some ⟨g', 0, none⟩) nf nf] 29 (0, 0))
            unfold World.cell?
            simp only [this]
            rfl
          have hE5 : Ext W3 (W4.alloc (.cells #[.slice (some ⟨g', 0, none⟩) nf nf] 29 (0, 0))) := hE4.alloc _
          have hrow : RowO (W4.alloc (.cells #[.slice (some ⟨g', 0, none⟩) nf nf] 29 (0, 0))) (some ⟨g', 0, none⟩) Lf := Or.inr ⟨g', 0, rfl, (HE3.out _ hE5).buf.row⟩
          have HBL : Hid _ := hbl
          have HROW : Hid _ := hrow
          have HE5 : Hid (Ext W3 (W4.alloc (.cells #[.slice (some ⟨g', 0, none⟩) nf nf] 29 (0, 0)))) := hE5
          clear hbl hrow hE4 hE5
          go_wp2_with (go_at_call 24; refine (mrg_any W4.heap.size (some ⟨g', 0, none⟩) nf nf Lf (W4.alloc (.cells #[.slice (some ⟨g', 0, none⟩) nf nf] 29 (0, 0))) (by omega) HNF.out HBL.out HROW.out (sizes_of (by omega))).mono ?_; rintro e W5 ⟨p6, g6, m6, cp6, rfl, hX6⟩)
          have hV := hX6.lgo.again
          refine (records_o W5.heap.size g6 m6 cp6 (mergeL Lf) _ hV (by omega)).mono ?_
          rintro e W6 ⟨po, rfl, hE6, hrec⟩
          rcases hrec with ⟨hnil, _⟩ | ⟨_, q, rfl, hq, hql⟩
          · exact absurd hnil (merge_ne hlnn)
          have hk36 : Kept (fun _ => False) W3 W6 := ((HE5.out.kept _).trans (Below.kept' hX6.below (fun _ => False)) (fun _ _ h => h)).trans ((((Ext.refl W5).alloc _).trans hE6).kept fun _ => False) (fun _ _ h => h)
          have hz2 := (hk36.block _ yl (fun h => h)).trans HB3'.out
          have hz4 := (hk36.block _ zl (fun h => h)).trans HB43.out
          have hn26 := rec_ne hz2 hq
          have hn46 := rec_ne hz4 hq
          have hs5 := HE5.out.size
          have hg6 := hX6.lg
          have hm6 := hX6.lm
          have hs6 := hX6.below.size
          have hs7 : (W5.alloc (.cells #[.slice (some ⟨g6, 0, none⟩) (mergeL Lf).length cp6, .map (some m6)] 53 (0, 0))).heap.size = W5.heap.size + 1 := by simp
          clear y0 y1 y2 y3 y4 yf yl z0 z1 z2 z3 z4 zf zl
          obtain ⟨y0, y1, y2, y3, y4, yf, yl⟩ := cells27 hz2
          obtain ⟨z0, z1, z2, z3, z4, zf, zl⟩ := cells27 hz4
          have HK36 : Hid _ := hk36
          have HQ : Hid _ := hq
          have HN26 : Hid _ := hn26
          have HN46 : Hid _ := hn46
          have hq1 : wr.heap.size ≤ q := by omega
          have hq2 : wr.heap.size ≤ g6 := by omega
          have hq3 : wr.heap.size ≤ m6 := by omega
          clear hk36 hz2 hz4 hq hn26 hn46 hV hX6 hE6 hs7 hql
          have hne24 : w.heap.size ≠ w.heap.size + 1 + 1 := by omega
          go_wp2
          refine bodyPost_ret (v := recL (some q) (mergeL Lf)) (by rw [recL_merged]; simp [results, Try.results26, go_sem, z0, z1, z2, z3, z4]) rfl ?_
          refine HBIG1.out _ q g6 m6 cp6 ?_ ?_ hq1 hq2 hq3
          · exact (((HS1.out.mono (fun _ _ h => Or.inl h)).trans HK36.out (fun _ _ h => h.elim)).trans (Kept.set5 W6 w.heap.size _ _ _ _ _) (fun _ _ h => Or.inl h)).trans (Kept.set5 _ (w.heap.size + 1 + 1) _ _ _ _ _) (fun _ _ h => Or.inr h)
          · exact (HQ.out.kept (Kept.set5 W6 w.heap.size _ _ _ _ _) (fun i hi e => HN26.out (by rw [← e]; exact hi))).kept (Kept.set5 _ (w.heap.size + 1 + 1) _ _ _ _ _) (fun i hi e => HN46.out (by rw [← e]; exact hi))
        · have hbi : ¬ ((2 : Int) * (sumW (mergeL Lf) : Int) < (sumW Lf : Int)) := by omega
          go_wp2
          refine bodyPost_ret (v := recL (some p1) Lf) (by simp [results, Try.results26, go_sem, z0, z1, z2, z3, z4]) rfl ?_
          refine HBIG0.out _ ?_ (by omega)
          exact (HS1.out.mono (fun _ _ h => Or.inl h)).trans (Kept.set5 _ _ _ _ _ _ _) (fun _ _ h => Or.inr h)
end Go.Proofs.Qxb6618064a
