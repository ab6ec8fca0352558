/- mergeXattrs. -/
import Derived.Test.Qxb6618064aPut
set_option linter.unusedVariables false
namespace Go.Proofs.Qxb6618064a
open Go.RowKit Go.Sort Go.Maps Go.WideShapes Go.ChangeShapes Go.WideMaps Plain

theorem run_make29c (n : Nat) (hn : n ≤ 1000000) (w : World) : (Instr.makeSlice 29 (.int .i64 0) (.int .i64 n)).run Try.prog w = .ok (.slice (some ⟨w.heap.size, 0, none⟩) 0 n) (w.alloc (.cells (made2 n) 56)) := by
  obtain ⟨i, hi, hz, hs, hb⟩ := info_parts info56
  have := run_make (P := Try.prog) w 29 56 i _ Try.underlying29 hi hz .i64 .i64 0 n (by omega) (by omega) (by rw [hb]; omega) (by omega)
  rw [hs] at this
  exact this
/-- a log of the call's own -/
structure XS (W0 W : World) (p g m cap : Nat) (L : List A2) : Prop where
  lgo : LogAt W p g m cap L
  below : Below W0.heap.size W0 W
  lp : W0.heap.size ≤ p
  lg : W0.heap.size ≤ g
  lm : W0.heap.size ≤ m
theorem XS.ext {W0 W W' : World} {p g m cap : Nat} {L : List A2} (h : XS W0 W p g m cap L) (hE : Ext W W') : XS W0 W' p g m cap L :=
  ⟨h.lgo.ext hE, h.below.trans (hE.below.mono h.below.size), h.lp, h.lg, h.lm⟩
theorem XS.add {W0 W W' : World} {p g m cap : Nat} {L L' : List A2} (h : XS W0 W p g m cap L) (hA : AddPost W p g m L' W') : ∃ g' cap', XS W0 W' p g' m cap' L' := by
  obtain ⟨g', cap', hL, hg, hK⟩ := hA
  have hs := h.below.size
  refine ⟨g', cap', hL, ⟨hK.os.trans h.below.os, hK.tape.trans h.below.tape, hK.output.trans h.below.output, Nat.le_trans hs hK.size, fun b hb => ?_⟩, h.lp, ?_, h.lm⟩
  · have h1 := h.lp
    have h2 := h.lg
    have h3 := h.lm
    rw [hK.block b (by omega) (by unfold In3; omega), h.below.block b hb]
  · have := h.lg
    rcases hg with e | e <;> omega
abbrev zero53 : Obj := .cells #[.slice none 0 0, .map none] 53 (0, 0)
/-- the log that mergeXattrs starts with -/
def XS0 (W0 W : World) (v : Value) (n : Nat) : Prop := ∃ p g m, v = .pointer (some ⟨p, 0, none⟩) ∧ XS W0 W p g m n (mergeL [])
def obj53 (g n m : Nat) : Obj := .cells #[.slice (some ⟨g, 0, none⟩) 0 n, .map (some m)] 53 (0, 0)
theorem XS0.mk {W0 W : World} {p g m n : Nat} (hE : Ext W0 W) (hn : n ≤ maxLen) (bp : W.heap[p]? = some (obj53 g n m)) (bg : W.heap[g]? = some (.cells (made2 n) 56 (0, 0))) (bm : W.heap[m]? = some (.map #[] 0)) (hp : W0.heap.size ≤ p) (hg : W0.heap.size ≤ g) (hm : W0.heap.size ≤ m) : XS0 W0 W (.pointer (some ⟨p, 0, none⟩)) n := by
  refine ⟨p, g, m, rfl, ⟨bp, BufA.made bg, ⟨0, ?_⟩, Nat.zero_le _, hn⟩, hE.below, hp, hg, hm⟩
  refine ⟨.map [], ⟨#[], 0, bm, ?_⟩, rfl, fun s => ⟨rfl, fun v h => by cases h⟩⟩
  obtain ⟨es, cl, h1, h2⟩ := World.ownsMap_made (P := Try.prog) (k := 9) (R := plainElem (H := Unit) Try.prog 3) (w := W)
  have : (W.alloc (.map #[] 0)).heap[W.heap.size]? = some (.map #[] 0) := heap_alloc_new W _
  rw [this] at h1
  injection h1 with h1
  injection h1 with e1 e2
  subst e1
  subst e2
  exact h2
theorem al3 (w : World) (a b c : Obj) : (((w.alloc a).alloc b).alloc c).drew.heap[w.heap.size]? = some a ∧ (((w.alloc a).alloc b).alloc c).drew.heap[w.heap.size + 1]? = some b ∧ (((w.alloc a).alloc b).alloc c).drew.heap[w.heap.size + 1 + 1]? = some c := by
  have h1 : (w.alloc a).heap.size = w.heap.size + 1 := by simp
  have h2 : ((w.alloc a).alloc b).heap.size = w.heap.size + 1 + 1 := by simp
  refine ⟨?_, ?_, ?_⟩
  · exact (Below.heap_alloc ((w.alloc a).alloc b) c _ (by omega)).trans ((Below.heap_alloc (w.alloc a) b _ (by omega)).trans (heap_alloc_new w a))
  · refine (Below.heap_alloc ((w.alloc a).alloc b) c _ (by omega)).trans ?_
    rw [← h1]
    exact heap_alloc_new _ _
  · rw [← h2]
    exact heap_alloc_new _ _
def MrgPost (w W : World) (l : List A2) (e : Ending) : Prop := ∃ p g m cap, e = .returned (.agg #[.slice (some ⟨g, 0, none⟩) (mergeL l).length cap, .map (some m)]) ∧ XS w W p g m cap (mergeL l)

theorem mrg_end {w W0 wr : World} {p g m cp : Nat} {l : List A2} (hW : w.alloc zero53 = W0) (hX : XS W0 wr p g m cp (mergeL l)) :
    MrgPost w ((wr.setCell ⟨w.heap.size, 0, none⟩ (.slice (some ⟨g, 0, none⟩) (mergeL l).length cp)).setCell ⟨w.heap.size, 1, none⟩ (.map (some m))) l (.returned (.agg #[.slice (some ⟨g, 0, none⟩) (mergeL l).length cp, .map (some m)])) := by
  subst hW
  have hs : (w.alloc zero53).heap.size = w.heap.size + 1 := by simp
  have hp := hX.lp
  have hg := hX.lg
  have hm := hX.lm
  refine ⟨p, g, m, cp, rfl, ?_, ?_, by omega, by omega, by omega⟩
  · refine hX.lgo.block ?_ ?_ ?_ <;> rw [heap_set_other (by omega), heap_set_other (by omega)]
  · have hb : Below w.heap.size w wr := ((Below.refl w.heap.size w).alloc (Nat.le_refl _) zero53).trans (hX.below.mono (by omega))
    exact (hb.setCell (Nat.le_refl _) _).setCell (Nat.le_refl _) _
set_option maxHeartbeats 4000000 in
theorem mrg_any (bl : Nat) (ao : Option Addr) (n cap : Nat) (l : List A2) (w : World) (hn : n ≤ 200000) (hl : l.length = n) (hbl : w.cell? ⟨bl, 0, none⟩ = some (.slice ao n cap)) (hR : RowO w ao l) (hs : ∀ y ∈ l, y.1.size ≤ maxLen ∧ y.2.size ≤ maxLen) :
    Calls Try.prog 24 #[.slice (some ⟨bl, 0, none⟩) 1 1] w fun e w' => MrgPost w w' l e := by
  have HL : Hid _ := hl
  have HS : Hid _ := hs
  clear hl hs
  have hlb : bl < w.heap.size := by
    unfold World.cell? at hbl
    cases h : w.heap[bl]? with
    | none => simp [h] at hbl
    | some o => exact (Array.getElem?_eq_some_iff.1 h).1
  have hmk := run_make29c n (by omega)
  have hm1 : ∀ w, (Instr.makeMap 40 (some (.int .i64 n))).run Try.prog w = .ok (.map (some w.heap.size)) (w.alloc (.map #[] 0)) := run_mk Try.underlying40 n
  have hE0 : Ext w (w.alloc zero53) := (Ext.refl w).alloc _
  have hz := heap_alloc_new w zero53
  have hbl0 := (hE0.cells.1 bl 0 hlb).trans hbl
  have hlb0 := Nat.lt_of_lt_of_le hlb hE0.size
  go_enter Try.func24, Try.ntmps24
  go_upto_region 1 with fail
  change Code.wp _ _ _ _ (w.alloc zero53)
  generalize hW0 : w.alloc zero53 = W0 at *
  have HW0 : Hid _ := hW0
  have HZ : Hid _ := hz
  clear hW0 hz
  go_wp2
  go_loopw [13, 3] (fun v13 v3 wr => wr = W0 ∧ ∃ k c : Nat, v13 = .int .i64 k ∧ v3 = .int .i64 c ∧ k ≤ 1 ∧ (k = 0 → c = 0) ∧ (k = 1 → c = n)) (fun v13 _ _ => 1 - (intOf v13).toNat)
  case atStart => exact ⟨rfl, 0, 0, rfl, rfl, by omega, fun _ => rfl, fun h => by omega⟩
  case round =>
    obtain ⟨hwr, k, c, rfl, rfl, hk, h0, h1⟩ := hrel
    have hwr' := hwr.symm
    subst hwr'
    clear hwr
    by_cases hlt : k < 1
    · obtain rfl : k = 0 := by omega
      obtain rfl := h0 rfl
      clear h0 h1 hmk hm1
      go_wp2
      go_roundw
      case rel => exact ⟨trivial, 1, n, by go_num, by go_num, by omega, fun h => by omega, fun _ => rfl⟩
      case measure => simp [intOf]
    · obtain rfl := h1 (by omega)
      clear h0 h1
      go_wp2_with fail
      go_cut [6] (fun v6 W => XS0 W0 W v6 c)
      case first =>
        go_big_region
        all_goals (go_wp2_with fail; go_meet)
        all_goals
          (refine XS0.mk ((((Ext.refl _).alloc _).alloc _).alloc _).drew (by unfold maxLen; omega) (by first | exact (al3 W0 _ _ _).1 | exact (al3 W0 _ _ _).2.1 | exact (al3 W0 _ _ _).2.2) ?_ ?_ ?_ ?_ ?_
           all_goals first | omega | exact (al3 W0 _ _ _).1 | exact (al3 W0 _ _ _).2.1 | exact (al3 W0 _ _ _).2.2)
      case rest =>
        obtain ⟨p, g, m, rfl, hX⟩ := hcut
        have HX : Hid _ := hX
        clear hX hmk hm1
        go_wp2
        go_loopw [29] (fun v29 W => ∃ k g cp : Nat, v29 = .int .i64 k ∧ k ≤ 1 ∧ Hid (XS W0 W p g m cp (mergeL (if k = 0 then [] else l)))) (fun v29 _ => 1 - (intOf v29).toNat)
        case atStart => exact ⟨0, g, c, rfl, by omega, HX.out⟩
        case round =>
          clear HX
          clear g
          obtain ⟨k, g, cp, rfl, hk1, HX⟩ := hrel
          have hb := (HX.out.below.cell (p := ⟨bl, 0, none⟩) hlb0).trans hbl0
          have hlb1 := Nat.lt_of_lt_of_le hlb0 HX.out.below.size
          by_cases hlt1 : k < 1
          · obtain rfl : k = 0 := by omega
            go_wp2
            go_loopw [35] (fun v35 W => ∃ j g cp : Nat, v35 = .int .i64 j ∧ j ≤ c ∧ Hid (XS W0 W p g m cp (mergeL (l.take j)))) (fun v35 _ => c - (intOf v35).toNat)
            case atStart => exact ⟨0, g, cp, rfl, by omega, HX.out⟩
            case round =>
              clear HX hb hlb1
              clear g cp
              obtain ⟨j, g, cp, rfl, hj, HX⟩ := hrel
              by_cases hlt2 : j < c
              · obtain ⟨b, off, x, rfl, hRr, hx⟩ := (hR.ext hE0).get (i := j) (by rw [HL.out]; exact hlt2)
                obtain ⟨a0, a1⟩ := (hRr.of_below HX.out.below hRr.1).2 j x hx
                have hwb : b < wr.heap.size := Nat.lt_of_lt_of_le hRr.1 HX.out.below.size
                obtain ⟨x1, x2⟩ := names_le HS.out hx
                have hX1 := HX.out.ext ((Ext.refl wr).alloc (box2 56 x))
                have hml : (mergeL (l.take j)).length ≤ 400000 := by
                  rw [merge_len]
                  have := firsts_le (l.take j)
                  rw [List.length_take] at this
                  omega
                have HXX : Hid _ := hx
                have HA : Hid (XS W0 (wr.alloc (box2 56 x)) p g m cp (mergeL (l.take j))) := hX1
                clear hx hRr hX1
                go_wp2_with (go_at_call 29; refine (put_any p g m cp (l.take j) x (wr.alloc (box2 56 x)) HA.out.lgo hml x1).mono ?_; rintro e w1 ⟨⟨v, rfl⟩, hpost⟩)
                rw [← take_snoc HXX.out] at hpost
                obtain ⟨g2, cp2, hX2⟩ := HA.out.add hpost
                have HX2 : Hid _ := hX2
                clear hX2 hpost a0 a1
                go_wp2
                go_roundw
                case rel => exact ⟨j + 1, g2, cp2, by go_num, by omega, HX2.out⟩
                case measure => simp [intOf]; omega
              · obtain rfl : c = j := by omega
                go_wp2
                go_roundw
                case rel =>
                  refine ⟨1, g, cp, by go_num, by omega, ?_⟩
                  have := HX.out
                  rw [← HL.out, List.take_length] at this
                  exact this
                case measure => simp [intOf]
          · obtain rfl : k = 1 := by omega
            have hX : XS W0 wr p g m cp (mergeL l) := HX.out
            obtain ⟨c0, c1, cf⟩ := hX.lgo.cells
            have hzz : wr.heap[w.heap.size]? = some zero53 := (hX.below.block _ (Array.getElem?_eq_some_iff.1 HZ.out).1).trans HZ.out
            have z0 : wr.cell? ⟨w.heap.size, 0, none⟩ = some (.slice none 0 0) := by simp [World.cell?, hzz]
            have z1 : wr.cell? ⟨w.heap.size, 1, none⟩ = some (.map none) := by simp [World.cell?, hzz]
            have zf : ∀ o, wr.frozen? ⟨w.heap.size, o, none⟩ = false := fun o => by simp [World.frozen?, hzz]
            have zl := (Array.getElem?_eq_some_iff.1 hzz).1
            have hpl := hX.lgo.lt.1
            clear hX hzz
            generalize hmn : (mergeL l).length = mn at *
            have HMN : Hid _ := hmn
            clear hmn
            go_wp2
            refine bodyPost_ret (v := .agg #[.slice (some ⟨g, 0, none⟩) mn cp, .map (some m)]) (by simp [results, Try.results24, go_sem, z0, z1]) rfl ?_
            have hfin := mrg_end (l := l) HW0.out HX.out
            rw [HMN.out] at hfin
            exact hfin
end Go.Proofs.Qxb6618064a
