/- put. -/
import Derived.Test.Qxb6618064aLog
set_option linter.unusedVariables false
namespace Go.Proofs.Qxb6618064a
open Go.RowKit Go.Sort Go.Maps Go.WideShapes Go.ChangeShapes Go.WideMaps Plain

theorem lastIL_eq {L L' : List A2} (h : ∀ s, lastI L s = lastI L' s) (s : ByteArray) : lastIL L s = lastIL L' s := by unfold lastIL; rw [h s]
theorem lastIL_some {L : List A2} {s : ByteArray} {i : Nat} (h : lastI L s = some i) : lastIL L s = some (.int .i64 i) := by unfold lastIL; rw [h]; rfl
theorem lastIL_none {L : List A2} {s : ByteArray} (h : lastI L s = none) : lastIL L s = none := by unfold lastIL; rw [h]; rfl
theorem put_set {w V : World} {p g m cap i : Nat} {L : List A2} {x : A2} {v : ByteArray} (h : LogAt w p g m cap L) (hE : Ext w V) (hn : (L.map (·.1)).Nodup) (hi : L[i]? = some (x.1, v)) :
    AddPost w p g m (L.set i x) (set2 V g i x) := by
  have hl := (List.getElem?_eq_some_iff.1 hi).1
  have h' := h.ext hE
  have hle := h.le
  have hs : V.heap.size = (set2 V g i x).heap.size := by simp [set2]
  have hB : BufA 56 (set2 V g i x) g cap (L.set i x) := h'.buf.put (by omega) x fun j y hy => by
    rw [List.getElem?_set] at hy
    by_cases e : i = j
    · rw [if_pos e, if_pos hl] at hy
      injection hy with hy
      exact Or.inl ⟨e.symm, hy.symm⟩
    · rw [if_neg e] at hy
      exact Or.inr ⟨fun h => e h.symm, hy⟩
  obtain ⟨c, hM⟩ := h'.mp
  refine ⟨g, cap, ⟨?_, hB, ⟨c, ?_⟩, by simpa using h.le, h.cm⟩, Or.inl rfl, ?_⟩
  · rw [set2_other h.pg.symm, h'.hp]
    simp
  · have := (hM.block (w' := set2 V g i x) (set2_other h.gm)).congr rfl (fun s => (lastIL_eq (lastI_set hn hi) s).symm)
    simpa using this
  · exact (hE.kept _).trans ⟨rfl, rfl, rfl, by rw [← hs]; exact Nat.le_refl _, fun b hb hne => set2_other (fun e => hne e.symm)⟩ (G := fun b => b = g) (fun b _ e => Or.inr (Or.inl e))

set_option maxHeartbeats 2000000 in
theorem put_any (p g m cap : Nat) (l : List A2) (x : A2) (w : World) (h : LogAt w p g m cap (mergeL l)) (hL : (mergeL l).length ≤ 400000) (hx : x.1.size ≤ maxLen) :
    Calls Try.prog 29 #[.pointer (some ⟨p, 0, none⟩), .agg #[.string x.1, .string x.2]] w fun e w' => (∃ v, e = .returned v) ∧ AddPost w p g m (mergeL (l ++ [x])) w' := by
  have HL : Hid _ := h
  obtain ⟨l1, l2, l3⟩ := h.lt
  have hE0 : Ext w (w.alloc (box2 56 x)) := (Ext.refl w).alloc _
  have hlV := (h.ext hE0).lt
  obtain ⟨c0, c1, cf⟩ := (h.ext hE0).cells
  obtain ⟨b0, b1⟩ := boxed2 (w := w.alloc (box2 56 x)) (heap_alloc_new w (box2 56 x))
  obtain ⟨c, hM⟩ := (h.ext (hE0.drew)).mp
  obtain ⟨i, hrun, hval⟩ := hM.run_look (t := 40) Try.underlying40 Try.underlying3 (zero3 _) (s := x.1) hx
  have hwV : w.heap.size < (w.alloc (box2 56 x)).heap.size := by simp
  cases hla : lastI (mergeL l) x.1 with
  | some k =>
    obtain ⟨v, hk, _⟩ := lastI_spec _ _ _ hla
    have hmo := merge_snoc_old (l := l) (a := x) hla
    have hik : i = k := by
      have := hval _ (lastIL_some hla)
      injection this with _ this
      exact this.symm
    subst hik
    rw [lastIL_some hla] at hrun
    have hkl := (List.getElem?_eq_some_iff.1 hk).1
    have hkl2 : (k : Int) < (mergeL l).length := by omega
    have hfin := put_set h (hE0.drew.drew) (nodup_merge l) hk
    rw [← hmo] at hfin
    obtain ⟨d0, d1⟩ := (h.ext hE0).buf.cell hk
    have df := (h.ext hE0).buf.frozen
    clear h hM hla hmo hk hval
    generalize mergeL (l ++ [x]) = L2 at *
    generalize (mergeL l).length = n at *
    go_enter Try.func29, Try.ntmps29
    go_upto_region 1 with fail
    change Code.wp _ _ _ _ (w.alloc (box2 56 x))
    generalize w.alloc (box2 56 x) = V at *
    go_big_region
    go_wp2
    go_big_region
    go_wp2
    exact bodyPost_ret (v := .tuple #[]) (by simp [results, Try.results29, go_sem]) rfl ⟨⟨_, rfl⟩, hfin⟩
  | none =>
    have hmn := merge_snoc_new (l := l) (a := x) (by rw [← names_merge l, ← firsts_nodup _ (nodup_merge l)]; exact (lastI_none _ _).1 hla)
    rw [lastIL_none hla] at hrun
    have hadd := add_any p g m cap (mergeL l) x _ (h.ext hE0.drew) hL hx
    rw [← hmn] at hadd
    have HA : Hid (Calls Try.prog 31 #[.pointer (some ⟨p, 0, none⟩), .agg #[.string x.1, .string x.2]] (w.alloc (box2 56 x)).drew fun e w' => (∃ v, e = .returned v) ∧ AddPost (w.alloc (box2 56 x)).drew p g m (mergeL (l ++ [x])) w') := hadd
    clear h hM hla hmn hval hadd
    generalize mergeL (l ++ [x]) = L2 at *
    generalize (mergeL l).length = n at *
    go_enter Try.func29, Try.ntmps29
    go_upto_region 1 with fail
    change Code.wp _ _ _ _ (w.alloc (box2 56 x))
    generalize w.alloc (box2 56 x) = V at *
    go_big_region
    go_wp2_with (go_at_call 31; refine HA.out.mono ?_; rintro e w1 ⟨⟨v, rfl⟩, hpost⟩)
    refine bodyPost_end (v := .tuple #[]) (by simp [results, Try.results29, go_sem]) rfl ⟨⟨_, rfl⟩, ?_⟩
    obtain ⟨g', cap', hLg, hg, hK⟩ := hpost
    refine ⟨g', cap', hLg, ?_, (hE0.drew.kept _).trans hK (fun i _ hi => hi)⟩
    rcases hg with e | e
    · exact Or.inl e
    · exact Or.inr (Nat.le_trans hE0.drew.size e)
end Go.Proofs.Qxb6618064a
