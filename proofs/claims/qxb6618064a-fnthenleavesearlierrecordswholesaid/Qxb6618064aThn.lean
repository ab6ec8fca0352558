/- then's contract, in the words of the logs; ZZThen. -/
import Derived.Test.Qxb6618064aThen
set_option linter.unusedVariables false
namespace Go.Proofs.Qxb6618064a
open Go.RowKit Go.Sort Go.Maps Go.WideShapes Go.ChangeShapes Go.WideMaps Plain

def ThenPost (w : World) (own : Nat → Option Nat) (Ls : Nat → Option (List A2)) (pr ps : Option Nat) (lr ls : List A2) (e : Ending) (W : World) : Prop := ∃ own' Ls' pt lt, e = .returned (recL pt lt) ∧ Inv W own' Ls' ∧ RecAt Ls' pt lt ∧ Like lt (lr ++ ls) ∧ sumW lt ≤ sumW lr + sumW ls ∧
  (∀ p L, Ls p = some L → ∃ L', Ls' p = some L' ∧ L <+: L') ∧ (pt = pr ∨ pt = ps ∨ ∃ p, pt = some p ∧ w.heap.size ≤ p) ∧ Kept (fun b => own b ≠ none) w W ∧ (∀ b, b < w.heap.size → own b = none → own' b = none)
def updO (own : Nat → Option Nat) (p g m : Nat) (b : Nat) : Option Nat := if b = p ∨ b = g ∨ b = m then some p else own b
def updL (Ls : Nat → Option (List A2)) (p : Nat) (L : List A2) (q : Nat) : Option (List A2) := if q = p then some L else Ls q
theorem updO_in {own : Nat → Option Nat} {p g m b : Nat} (h : In3 p g m b) : updO own p g m b = some p := if_pos h
theorem updO_out {own : Nat → Option Nat} {p g m b : Nat} (h : ¬ In3 p g m b) : updO own p g m b = own b := if_neg h
theorem updL_same {Ls : Nat → Option (List A2)} {p : Nat} {L : List A2} : updL Ls p L p = some L := if_pos rfl
theorem updL_other {Ls : Nat → Option (List A2)} {p q : Nat} {L : List A2} (h : q ≠ p) : updL Ls p L q = Ls q := if_neg h
theorem Inv.upd {w W : World} {own : Nat → Option Nat} {Ls : Nat → Option (List A2)} {p1 g1 m1 g' cap' : Nat} {L1 : List A2} (hI : Inv w own Ls) (hL : LogAt W p1 g' m1 cap' L1) (hs : sumW L1 ≤ 1048576) (hK : Kept (In3 p1 g1 m1) w W)
    (hold : (own p1 = some p1 ∧ own g1 = some p1 ∧ own m1 = some p1) ∨ (w.heap.size ≤ p1 ∧ w.heap.size ≤ g1 ∧ w.heap.size ≤ m1)) (hg : g' = g1 ∨ w.heap.size ≤ g') : Inv W (updO own p1 g' m1) (updL Ls p1 L1) := by
  have hlt := hL.lt
  refine ⟨fun q L2 hq => ?_, fun b hb => ?_⟩
  · by_cases e : q = p1
    · subst e
      rw [updL_same] at hq
      injection hq with hq
      subst hq
      exact ⟨⟨g', m1, cap', hL, updO_in (Or.inl rfl), updO_in (Or.inr (Or.inl rfl)), updO_in (Or.inr (Or.inr rfl))⟩, hs⟩
    · rw [updL_other e] at hq
      obtain ⟨⟨g2, m2, cap2, h2, o1, o2, o3⟩, hs2⟩ := hI.lgo q L2 hq
      have hlt2 := h2.lt
      have key : ∀ i, i < w.heap.size → own i = some q → ¬ In3 p1 g1 m1 i ∧ ¬ In3 p1 g' m1 i := by
        intro i hi ho
        have h1 : ¬ In3 p1 g1 m1 i := by
          rintro h
          rcases hold with ⟨a, b, c⟩ | h'
          · rcases h with rfl | rfl | rfl
            · rw [a] at ho; injection ho with ho; exact e ho.symm
            · rw [b] at ho; injection ho with ho; exact e ho.symm
            · rw [c] at ho; injection ho with ho; exact e ho.symm
          · unfold In3 at h; omega
        refine ⟨h1, ?_⟩
        rintro (h | h | h)
        · exact h1 (Or.inl h)
        · rcases hg with hg | hg
          · exact h1 (Or.inr (Or.inl (h.trans hg)))
          · omega
        · exact h1 (Or.inr (Or.inr h))
      refine ⟨⟨g2, m2, cap2, h2.kept hK ?_, ?_, ?_, ?_⟩, hs2⟩
      · rintro i (rfl | rfl | rfl)
        · exact (key _ hlt2.1 o1).1
        · exact (key _ hlt2.2.1 o2).1
        · exact (key _ hlt2.2.2 o3).1
      · rw [updO_out (key _ hlt2.1 o1).2]; exact o1
      · rw [updO_out (key _ hlt2.2.1 o2).2]; exact o2
      · rw [updO_out (key _ hlt2.2.2 o3).2]; exact o3
  · rw [updO_out (by unfold In3; omega)]
    exact hI.fresh b (Nat.le_trans hK.size hb)
theorem Inv.add {W : World} {own : Nat → Option Nat} {Ls : Nat → Option (List A2)} {p g m cap : Nat} {L : List A2} (hI : Inv W own Ls) (hL : LogAt W p g m cap L) (hs : sumW L ≤ 1048576) (hn : ∀ i, In3 p g m i → own i = none) : Inv W (updO own p g m) (updL Ls p L) := by
  have hlt := hL.lt
  refine ⟨fun q L2 hq => ?_, fun b hb => ?_⟩
  · by_cases e : q = p
    · subst e
      rw [updL_same] at hq
      injection hq with hq
      subst hq
      exact ⟨⟨g, m, cap, hL, updO_in (Or.inl rfl), updO_in (Or.inr (Or.inl rfl)), updO_in (Or.inr (Or.inr rfl))⟩, hs⟩
    · rw [updL_other e] at hq
      obtain ⟨⟨g2, m2, cap2, h2, o1, o2, o3⟩, hs2⟩ := hI.lgo q L2 hq
      have key : ∀ i, own i = some q → ¬ In3 p g m i := fun i ho h => by rw [hn i h] at ho; cases ho
      refine ⟨⟨g2, m2, cap2, h2, ?_, ?_, ?_⟩, hs2⟩
      · rw [updO_out (key _ o1)]; exact o1
      · rw [updO_out (key _ o2)]; exact o2
      · rw [updO_out (key _ o3)]; exact o3
  · rw [updO_out (by unfold In3; omega)]
    exact hI.fresh b hb
theorem then_post {w : World} {own : Nat → Option Nat} {Ls : Nat → Option (List A2)} {pr ps : Option Nat} {lr ls : List A2} (hI : Inv w own Ls) (hr : RecAt Ls pr lr) (hsr : RecAt Ls ps ls) (hd : ∀ p, pr = some p → ps ≠ some p) (hb : sumW lr + sumW ls ≤ 1048576) :
    Calls Try.prog 26 #[recL pr lr, recL ps ls] w fun e w' => ThenPost w own Ls pr ps lr ls e w' := by
  obtain ⟨⟨h1, h2⟩ | ⟨hsn, qs, Lx, hqs, hLx, hpx⟩, hsh⟩ := hsr
  · subst h1 h2
    refine (then_s0 (pr.map fun p => ⟨p, 0, none⟩) lr.length (firsts lr).length (sumW lr) (sumW (mergeL lr)) w).mono ?_
    rintro e w' ⟨rfl, hE⟩
    exact ⟨own, Ls, pr, lr, rfl, hI.ext hE, hr, by rw [List.append_nil]; exact Like.refl _, by omega, fun p L h => ⟨L, h, List.prefix_rfl⟩, Or.inl rfl, hE.kept _, fun b _ h => h⟩
  obtain ⟨⟨h1, h2⟩ | ⟨hrn, qr, L, hqr, hLr, hpr⟩, hrh⟩ := hr
  · subst h1 h2
    refine (then_r0 (ps.map fun p => ⟨p, 0, none⟩) ls.length (firsts ls).length (sumW ls) (sumW (mergeL ls)) w (List.length_pos_iff.2 hsn)).mono ?_
    rintro e w' ⟨rfl, hE⟩
    exact ⟨own, Ls, ps, ls, rfl, hI.ext hE, ⟨Or.inr ⟨hsn, qs, Lx, hqs, hLx, hpx⟩, hsh⟩, Like.refl _, by omega, fun p L h => ⟨L, h, List.prefix_rfl⟩, Or.inr (Or.inl rfl), hE.kept _, fun b _ h => h⟩
  subst hqs hqr
  obtain ⟨⟨g, m, cap, hL, o1, o2, o3⟩, hsL⟩ := hI.lgo qr L hLr
  obtain ⟨⟨gs, ms, caps, hX, x1, x2, x3⟩, hsX⟩ := hI.lgo qs Lx hLx
  have hdj : ¬ In3 qr g m gs := by
    have hne : qr ≠ qs := fun e => hd qr rfl (by rw [e])
    rintro (h | h | h)
    · rw [h, o1] at x2; injection x2 with x2; exact hne x2
    · rw [h, o2] at x2; injection x2 with x2; exact hne x2
    · rw [h, o3] at x2; injection x2 with x2; exact hne x2
  refine (then_raw qr g m cap L lr qs gs ms caps Lx ls w hL hpr hrn hsL hX hpx hsn hsX hdj hb).mono ?_
  rintro e W ⟨p1, g1, m1, l1, g', cap', hlike, hsum, hne1, hwho, hL1, hg, hK, halt⟩
  have hold : (own p1 = some p1 ∧ own g1 = some p1 ∧ own m1 = some p1) ∨ (w.heap.size ≤ p1 ∧ w.heap.size ≤ g1 ∧ w.heap.size ≤ m1) := by
    rcases hwho with ⟨rfl, rfl, rfl, _⟩ | h
    · exact Or.inl ⟨o1, o2, o3⟩
    · exact Or.inr h
  have hsf : sumW (l1 ++ ls) ≤ sumW lr + sumW ls := by rw [sumW_append]; omega
  have hI1 := hI.upd hL1 (by omega) hK hold hg
  have hfn : l1 ++ ls ≠ [] := by simp [hne1]
  have hlk : Like (l1 ++ ls) (lr ++ ls) := hlike.append (Like.refl ls)
  have hqlt : ∀ q L2, Ls q = some L2 → q < w.heap.size := fun q L2 h => by
    obtain ⟨⟨_, _, _, h2, _⟩, _⟩ := hI.lgo q L2 h
    exact h2.lt.1
  have hgrow : ∀ q L2, Ls q = some L2 → ∃ L', updL Ls p1 (l1 ++ ls) q = some L' ∧ L2 <+: L' := by
    intro q L2 h
    by_cases e : q = p1
    · subst e
      rcases hwho with ⟨rfl, _, _, rfl, rfl⟩ | h'
      · rw [hLr] at h
        injection h with h
        subst h
        exact ⟨_, updL_same, List.prefix_append _ _⟩
      · have := hqlt q L2 h
        omega
    · exact ⟨L2, by rw [updL_other e]; exact h, List.prefix_rfl⟩
  have hin : ∀ i, i < w.heap.size → (In3 p1 g1 m1 i ∨ In3 p1 g' m1 i) → own i ≠ none := by
    intro i hi h
    rcases hold with ⟨a, b, c⟩ | h'
    · rcases h with (rfl | rfl | rfl) | (rfl | h | rfl)
      · rw [a]; simp
      · rw [b]; simp
      · rw [c]; simp
      · rw [a]; simp
      · rcases hg with e | e
        · rw [h, e, b]; simp
        · omega
      · rw [c]; simp
    · unfold In3 at h; omega
  have hkept : Kept (fun b => own b ≠ none) w W := hK.mono (fun i hi h => hin i hi (Or.inl h))
  have hnone : ∀ b, b < w.heap.size → own b = none → updO own p1 g' m1 b = none := fun b hb ho => by
    rw [updO_out (fun h => hin b hb (Or.inr h) ho)]
    exact ho
  rcases halt with ⟨rfl, hh⟩ | ⟨p2, g2, m2, cap2, rfl, hL2, hfar⟩
  · refine ⟨_, _, some p1, l1 ++ ls, rfl, hI1, ⟨Or.inr ⟨hfn, p1, l1 ++ ls, rfl, updL_same, List.prefix_rfl⟩, hh⟩, hlk, hsf, hgrow, ?_, hkept, hnone⟩
    rcases hwho with ⟨rfl, _⟩ | h
    · exact Or.inl rfl
    · exact Or.inr (Or.inr ⟨p1, rfl, h.1⟩)
  · have hms := sumW_merge_le (l1 ++ ls)
    have hI2 := hI1.add hL2 (by omega) (fun i hi => by
      rw [updO_out (hfar i hi).2]
      exact hI.fresh i (hfar i hi).1)
    have hp2 := (hfar p2 (Or.inl rfl)).1
    refine ⟨_, _, some p2, mergeL (l1 ++ ls), rfl, hI2, ⟨Or.inr ⟨merge_ne hfn, p2, _, rfl, updL_same, List.prefix_rfl⟩, by rw [merge_merge]; omega⟩, (Like.merged _).trans hlk, by omega, fun q L2 h => ?_, Or.inr (Or.inr ⟨p2, rfl, hp2⟩), hkept, fun b hb ho => ?_⟩
    · rw [updL_other (by have := hqlt q L2 h; omega)]
      exact hgrow q L2 h
    · rw [updO_out (fun h => by have := (hfar b h).1; omega)]
      exact hnone b hb ho

theorem ThenPost.box {w W0 W : World} {own : Nat → Option Nat} {Ls : Nat → Option (List A2)} {pr ps : Option Nat} {lr ls : List A2} {e : Ending} (hI : Inv w own Ls) (hE : Ext w W0) (b4 : Nat) (h4 : w.heap.size ≤ b4) (h4' : b4 < W0.heap.size) (h : ThenPost W0 own Ls pr ps lr ls e W) (a0 a1 a2 a3 a4 : Value) : ThenPost w own Ls pr ps lr ls e (set5 W b4 a0 a1 a2 a3 a4) := by
  obtain ⟨own', Ls', pt, lt, rfl, hI', hr, hlk, hs, hg, hp, hK, hn⟩ := h
  have hs0 := hE.size
  refine ⟨own', Ls', pt, lt, rfl, hI'.kept (Kept.set5 W b4 _ _ _ _ _) (fun b hb e => ?_), hr, hlk, hs, hg, ?_, ((hE.kept _).trans hK (fun _ _ h => h)).trans (Kept.set5 W b4 _ _ _ _ _) (fun i hi e => by omega), fun b hb ho => hn b (by omega) ho⟩
  · rw [e]
    exact hn b4 h4' (hI.fresh b4 h4)
  · rcases hp with h | h | ⟨p, h1, h2⟩
    · exact Or.inl h
    · exact Or.inr (Or.inl h)
    · exact Or.inr (Or.inr ⟨p, h1, by omega⟩)
def recObj (ap : Option Addr) (n m s l : Int) : Obj := .cells #[.pointer ap, .int .i64 n, .int .i64 m, .int .i64 s, .int .i64 l] 27 (0, 0)
set_option maxHeartbeats 1000000 in
theorem zzthen_of {w : World} {own : Nat → Option Nat} {Ls : Nat → Option (List A2)} {pr ps : Option Nat} {lr ls : List A2} (hI : Inv w own Ls) (hr : RecAt Ls pr lr) (hsr : RecAt Ls ps ls) (hd : ∀ p, pr = some p → ps ≠ some p) (hb : sumW lr + sumW ls ≤ 1048576) :
    Calls Try.prog 9 #[recL pr lr, recL ps ls] w fun e w' => ThenPost w own Ls pr ps lr ls e w' := by
  have hE0 : Ext w (((w.alloc (recObj (pr.map fun p => ⟨p, 0, none⟩) lr.length (firsts lr).length (sumW lr) (sumW (mergeL lr)))).alloc (recObj (ps.map fun p => ⟨p, 0, none⟩) ls.length (firsts ls).length (sumW ls) (sumW (mergeL ls)))).alloc zero27) := (((Ext.refl w).alloc _).alloc _).alloc _
  obtain ⟨d2, d3, d4⟩ := al3' w (recObj (pr.map fun p => ⟨p, 0, none⟩) lr.length (firsts lr).length (sumW lr) (sumW (mergeL lr))) (recObj (ps.map fun p => ⟨p, 0, none⟩) ls.length (firsts ls).length (sumW ls) (sumW (mergeL ls))) zero27
  have hsz : (((w.alloc (recObj (pr.map fun p => ⟨p, 0, none⟩) lr.length (firsts lr).length (sumW lr) (sumW (mergeL lr)))).alloc (recObj (ps.map fun p => ⟨p, 0, none⟩) ls.length (firsts ls).length (sumW ls) (sumW (mergeL ls)))).alloc zero27).heap.size = w.heap.size + 1 + 1 + 1 := by simp
  have hc := then_post (hI.ext hE0) hr hsr hd hb
  have HI : Hid _ := hI
  have HE0 : Hid (Ext w (((w.alloc (recObj (pr.map fun p => ⟨p, 0, none⟩) lr.length (firsts lr).length (sumW lr) (sumW (mergeL lr)))).alloc (recObj (ps.map fun p => ⟨p, 0, none⟩) ls.length (firsts ls).length (sumW ls) (sumW (mergeL ls)))).alloc zero27)) := hE0
  have HC : Hid (Calls Try.prog 26 #[recL pr lr, recL ps ls] (((w.alloc (recObj (pr.map fun p => ⟨p, 0, none⟩) lr.length (firsts lr).length (sumW lr) (sumW (mergeL lr)))).alloc (recObj (ps.map fun p => ⟨p, 0, none⟩) ls.length (firsts ls).length (sumW ls) (sumW (mergeL ls)))).alloc zero27) fun e w' => ThenPost (((w.alloc (recObj (pr.map fun p => ⟨p, 0, none⟩) lr.length (firsts lr).length (sumW lr) (sumW (mergeL lr)))).alloc (recObj (ps.map fun p => ⟨p, 0, none⟩) ls.length (firsts ls).length (sumW ls) (sumW (mergeL ls)))).alloc zero27) own Ls pr ps lr ls e w') := hc
  clear hc hI hr hsr hE0
  have D4 : Hid _ := d4
  obtain ⟨y0, y1, y2, y3, y4, yf, yl⟩ := cells27 d2
  obtain ⟨z0, z1, z2, z3, z4, zf, zl⟩ := cells27 d3
  clear d2 d3 d4
  go_enter Try.func9, Try.ntmps9
  go_upto_region 1 with fail
  change Code.wp _ _ _ _ (((w.alloc (recObj (pr.map fun p => ⟨p, 0, none⟩) lr.length (firsts lr).length (sumW lr) (sumW (mergeL lr)))).alloc (recObj (ps.map fun p => ⟨p, 0, none⟩) ls.length (firsts ls).length (sumW ls) (sumW (mergeL ls)))).alloc zero27)
  generalize ((w.alloc (recObj (pr.map fun p => ⟨p, 0, none⟩) lr.length (firsts lr).length (sumW lr) (sumW (mergeL lr)))).alloc (recObj (ps.map fun p => ⟨p, 0, none⟩) ls.length (firsts ls).length (sumW ls) (sumW (mergeL ls)))).alloc zero27 = W0 at *
  go_wp2_with fail
  refine HC.out.mono ?_
  rintro e W ⟨own', Ls', pt, lt, rfl, hI', hr', hlk, hs', hg', hp', hK', hn'⟩
  have hT : ThenPost W0 own Ls pr ps lr ls (.returned (recL pt lt)) W := ⟨own', Ls', pt, lt, rfl, hI', hr', hlk, hs', hg', hp', hK', hn'⟩
  have hz4 := (hK'.block (w.heap.size + 1 + 1) (by omega) (by rw [HI.out.fresh _ (by omega)]; simp)).trans D4.out
  have HT : Hid _ := hT.box HI.out HE0.out (w.heap.size + 1 + 1) (by omega) (by omega) (.pointer (pt.map fun p => ⟨p, 0, none⟩)) (.int .i64 lt.length) (.int .i64 (firsts lt).length) (.int .i64 (sumW lt)) (.int .i64 (sumW (mergeL lt)))
  clear y0 y1 y2 y3 y4 yf yl z0 z1 z2 z3 z4 zf zl hI' hr' hlk hs' hg' hp' hK' hn' hT
  obtain ⟨z0, z1, z2, z3, z4, zf, zl⟩ := cells27 hz4
  clear hz4
  go_wp2
  exact bodyPost_ret (v := recL pt lt) (by simp [results, Try.results9, go_sem, z0, z1, z2, z3, z4]) rfl HT.out
end Go.Proofs.Qxb6618064a
