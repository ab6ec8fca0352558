/- (*Place).past. -/
import Derived.Test.Qxb6618031aCompact
import Derived.Test.Qxb6618031aIdx
set_option linter.unusedVariables false
namespace Go.Proofs.Qxb6618031a
open Go.RowKit Go.Sort Go.Shelf Go.Lib

def containsB (f : Nat → W3) (m : Nat) (v : W3) : Bool := (List.range m).any fun j => eq3 (f j) v
theorem containsB_iff (f : Nat → W3) (m : Nat) (v : W3) : containsB f m v = true ↔ ∃ j, j < m ∧ f j = v := by
  simp [containsB, eq3_iff]
theorem first_idx (f : Nat → W3) (v : W3) : ∀ m, ∃ j0, j0 ≤ m ∧ (∀ j, j < j0 → f j ≠ v) ∧ (j0 < m → f j0 = v)
  | 0 => ⟨0, Nat.le_refl _, fun j hj => by omega, fun h => by omega⟩
  | m + 1 => by
    obtain ⟨j0, h1, h2, h3⟩ := first_idx f v m
    by_cases hlt : j0 < m
    · exact ⟨j0, by omega, h2, fun _ => h3 hlt⟩
    · obtain rfl : j0 = m := by omega
      by_cases he : f j0 = v
      · exact ⟨j0, by omega, h2, fun _ => he⟩
      · refine ⟨j0 + 1, Nat.le_refl _, fun j hj => ?_, fun h => by omega⟩
        by_cases hjj : j = j0
        · subst hjj; exact he
        · exact h2 j (by omega)

set_option maxHeartbeats 1000000 in
theorem contains_any (b m cap : Nat) (f : Nat → W3) (v : W3) (w : World) (hm : m ≤ 1000000) (hR : Buf3 w b m f) :
    Calls Try.prog 26 #[.slice (some ⟨b, 0, none⟩) m cap, .agg #[.int .u64 v.1, .int .u64 v.2.1, .int .u64 v.2.2]] w
      fun e w' => e = .returned (.bool (containsB f m v)) ∧ Ext w w' := by
  obtain ⟨j0, h1, h2, h3⟩ := first_idx f v m
  have hE : Ext w (w.alloc (box v)) := (Ext.refl w).alloc _
  have hb : (w.alloc (box v)).heap[w.heap.size]? = some (box v) := by show (w.heap.push _)[w.heap.size]? = _; simp
  obtain ⟨x0, x1, x2⟩ := boxed hb
  have hR1 := hR.ext hE
  by_cases hlt : j0 < m
  · have HR : Hid (containsB f m v = true) := (containsB_iff f m v).2 ⟨j0, hlt, h3 hlt⟩
    have hI := fun V (hV : Buf3 V b m f) => index_any b m cap f v j0 V hm hV h1 h2 h3
    rw [if_pos hlt] at hI
    clear h2 h3
    go_enter Try.func26, Try.ntmps26
    go_upto_region 1 with fail
    change Code.wp _ _ _ _ (w.alloc (box v))
    generalize w.alloc (box v) = V at hE hb x0 x1 x2 hR1 ⊢
    go_wp2_with (go_at_call 31; refine (hI _ hR1).mono ?_; rintro e w1 ⟨rfl, hE1⟩)
    go_ret
    exact ⟨ret_bool HR.out.symm, hE.trans hE1⟩
  · have HR : Hid (containsB f m v = false) := by
      show containsB f m v = false
      cases hc : containsB f m v with
      | false => rfl
      | true =>
        obtain ⟨j, hj, e⟩ := (containsB_iff f m v).1 hc
        exact absurd e (h2 j (by omega))
    have hI := fun V (hV : Buf3 V b m f) => index_any b m cap f v j0 V hm hV h1 h2 h3
    rw [if_neg hlt] at hI
    clear h2 h3
    go_enter Try.func26, Try.ntmps26
    go_upto_region 1 with fail
    change Code.wp _ _ _ _ (w.alloc (box v))
    generalize w.alloc (box v) = V at hE hb x0 x1 x2 hR1 ⊢
    go_wp2_with (go_at_call 31; refine (hI _ hR1).mono ?_; rintro e w1 ⟨rfl, hE1⟩)
    go_ret
    exact ⟨ret_bool HR.out.symm, hE.trans hE1⟩

def keepP (x y : W3) (fs : Nat → W3) (m : Nat) (z : W3) : Bool := btwB z x y && !containsB fs m z
def filt (x y : W3) (fs : Nat → W3) (m : Nat) (Z : Nat → W3) (k : Nat) : List W3 := ((List.range k).map Z).filter (keepP x y fs m)
theorem filt_succ (x y : W3) (fs : Nat → W3) (m : Nat) (Z : Nat → W3) (k : Nat) : filt x y fs m Z (k + 1) = filt x y fs m Z k ++ if keepP x y fs m (Z k) = true then [Z k] else [] := by
  unfold filt
  rw [List.range_succ, List.map_append, List.filter_append]
  congr 1
  simp only [List.map_cons, List.map_nil, List.filter_cons, List.filter_nil]
theorem filt_len (x y : W3) (fs : Nat → W3) (m : Nat) (Z : Nat → W3) (k : Nat) : (filt x y fs m Z k).length ≤ k := by
  unfold filt
  have := List.length_filter_le (keepP x y fs m) ((List.range k).map Z)
  simpa using this

def flatL (l : List W3) : List Value := l.flatMap enc3
theorem flatL_append (l m : List W3) : flatL (l ++ m) = flatL l ++ flatL m := by simp [flatL]
theorem flatL_length (l : List W3) : (flatL l).length = l.length * 3 := by
  induction l with
  | nil => rfl
  | cons a l ih => simp only [flatL, List.flatMap_cons, List.length_append, List.length_cons] at *; rw [ih]; simp [enc3]; omega
theorem flatL_get : ∀ (l : List W3) (i r : Nat), i < l.length → r < 3 → (flatL l)[i * 3 + r]? = some (enc3 l[i]!)[r]!
  | [], i, _, h, _ => by simp at h
  | a :: l, 0, r, _, hr => by
    simp only [flatL, List.flatMap_cons, Nat.zero_mul, Nat.zero_add]
    rw [List.getElem?_append_left (by simpa [enc3] using hr)]
    have : ((a :: l)[0]! : W3) = a := rfl
    rw [this, List.getElem?_eq_getElem (by simpa [enc3] using hr), getElem!_pos _ r (by simpa [enc3] using hr)]
  | a :: l, i + 1, r, h, hr => by
    have ih := flatL_get l i r (by simpa using h) hr
    simp only [flatL, List.flatMap_cons] at *
    rw [List.getElem?_append_right (by simp [enc3]; omega)]
    have e : (i + 1) * 3 + r - (enc3 a).length = i * 3 + r := by simp [enc3]; omega
    rw [e, ih]
    simp
theorem own_BufL {w : World} {base : Nat} {v : Value} {l : List W3} (h : w.ownsRow base 30 3 v l.length (flatL l)) (hl : l ≠ []) :
    ∃ g cap, v = .slice (some ⟨g, 0, none⟩) l.length cap ∧ base ≤ g ∧ l.length ≤ cap ∧ cap ≤ maxLen ∧ BufL w g l := by
  obtain ⟨_, h2⟩ := h
  have hpos : 0 < l.length := List.length_pos_iff.2 hl
  rcases h2 with ⟨_, h0⟩ | ⟨g, cap, cur, rfl, hg, hh, hc, hm, hsz, hx⟩
  · omega
  · refine ⟨g, cap, rfl, hg, hc, hm, cur, hh, ?_, fun i hi => ?_⟩
    · rw [hsz]; omega
    · have key : ∀ r, r < 3 → cur[i * 3 + r]? = some (enc3 l[i]!)[r]! := by
        intro r hr
        have h1 := flatL_get l i r hi hr
        rw [← hx, List.getElem?_take, if_pos (by omega)] at h1
        rw [← h1]; simp
      obtain ⟨g0, g1, g2⟩ := enc3_get l[i]!
      exact ⟨(key 0 (by omega)).trans (by rw [g0]), (key 1 (by omega)).trans (by rw [g1]), (key 2 (by omega)).trans (by rw [g2])⟩
end Go.Proofs.Qxb6618031a
