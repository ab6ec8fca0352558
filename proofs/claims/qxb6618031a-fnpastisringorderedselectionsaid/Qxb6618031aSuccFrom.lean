import Derived.Test.Qxb6618031aClone
set_option linter.unusedVariables false
namespace Go.Proofs.Qxb6618031a
open Go.RowKit Go.Sort

set_option maxHeartbeats 1000000 in
theorem succFrom_any (bp : Nat) (x y : W3) (bs ms : Nat) (keep : Nat) (bg m : Nat) (f : Nat → W3) (j0 L : Nat) (w : World) (hP : w.heap[bp]? = some (placeObj x y bs ms keep)) (hS : Buf3 w bg m f) (hm : m ≤ 1000000) (hm0 : 0 < m)
    (hk0 : 0 < keep) (hj : j0 ≤ m) (hno : ∀ j, j < j0 → f j ≠ x) (hyes : j0 < m → f j0 = x) (hL : L = min (if j0 < m then j0 + 1 else m) keep) :
    Calls Try.prog 25 #[.pointer (some ⟨bp, 0, none⟩), .slice (some ⟨bg, 0, none⟩) m m] w
      fun e w' => ∃ g cap', e = .returned (.slice (some ⟨g, 0, none⟩) L cap') ∧ Below w.heap.size w w' ∧ w.heap.size ≤ g ∧ Row3 w' g 0 L f := by
  obtain ⟨q0, q1, q2, _, _, _, _, q7, _⟩ := place_cells hP
  have hbp : bp < w.heap.size := (Array.getElem?_eq_some_iff.1 hP).1
  have HN : Hid _ := hno
  have HY : Hid _ := hyes
  clear hno hyes
  by_cases hjm : j0 < m
  · rw [if_pos hjm] at hL
    by_cases hkl : keep < j0 + 1
    · have hLk : L = keep := by omega
      subst hLk
      clear hL
      go_enter Try.func25, Try.ntmps25
      go_wp2_with (go_at_call 31; refine (index_any bg m m f x j0 w hm hS hj HN.out HY.out).mono ?_; rintro e w1 ⟨rfl, hE1⟩; obtain ⟨hc1, hf1⟩ := hE1.cells)
      refine (clone_any bg m L m f w1 hm (by omega) (by omega) (hS.ext hE1)).mono ?_
      rintro e w2 ⟨g, cap', rfl, hB2, hg, hr⟩
      go_wp2
      go_ret
      exact ⟨g, cap', rfl, (hE1.below).trans (hB2.mono hE1.size), Nat.le_trans hE1.size hg, hr⟩
    · have hLk : L = j0 + 1 := by omega
      subst hLk
      clear hL
      go_enter Try.func25, Try.ntmps25
      go_wp2_with (go_at_call 31; refine (index_any bg m m f x j0 w hm hS hj HN.out HY.out).mono ?_; rintro e w1 ⟨rfl, hE1⟩; obtain ⟨hc1, hf1⟩ := hE1.cells)
      refine (clone_any bg m (j0 + 1) m f w1 hm (by omega) (by omega) (hS.ext hE1)).mono ?_
      rintro e w2 ⟨g, cap', rfl, hB2, hg, hr⟩
      go_wp2
      go_ret
      exact ⟨g, cap', rfl, (hE1.below).trans (hB2.mono hE1.size), Nat.le_trans hE1.size hg, hr⟩
  · rw [if_neg hjm] at hL
    by_cases hkl : keep < m
    · have hLk : L = keep := by omega
      subst hLk
      clear hL
      go_enter Try.func25, Try.ntmps25
      go_wp2_with (go_at_call 31; refine (index_any bg m m f x j0 w hm hS hj HN.out HY.out).mono ?_; rintro e w1 ⟨rfl, hE1⟩; obtain ⟨hc1, hf1⟩ := hE1.cells)
      refine (clone_any bg m L m f w1 hm (by omega) (by omega) (hS.ext hE1)).mono ?_
      rintro e w2 ⟨g, cap', rfl, hB2, hg, hr⟩
      go_wp2
      go_ret
      exact ⟨g, cap', rfl, (hE1.below).trans (hB2.mono hE1.size), Nat.le_trans hE1.size hg, hr⟩
    · have hLk : L = m := by omega
      subst hLk
      clear hL
      go_enter Try.func25, Try.ntmps25
      go_wp2_with (go_at_call 31; refine (index_any bg L L f x j0 w hm hS hj HN.out HY.out).mono ?_; rintro e w1 ⟨rfl, hE1⟩; obtain ⟨hc1, hf1⟩ := hE1.cells)
      refine (clone_any bg L L L f w1 hm (by omega) (by omega) (hS.ext hE1)).mono ?_
      rintro e w2 ⟨g, cap', rfl, hB2, hg, hr⟩
      go_wp2
      go_ret
      exact ⟨g, cap', rfl, (hE1.below).trans (hB2.mono hE1.size), Nat.le_trans hE1.size hg, hr⟩

end Go.Proofs.Qxb6618031a
