/- Plain law for FnPastIsRingOrderedSelection: words as numbers, distances, insertion. No walk here. -/
import Derived.Test.Qxb6618031aSub
import Derived.Test.Qxb6618031aLaw3
set_option linter.unusedVariables false
namespace Go.Proofs.Qxb6618031a
open Go.RowKit Go.Sort

def num (x : W3) : Int := x.1 * 340282366920938463463374607431768211456 + x.2.1 * 18446744073709551616 + x.2.2
def Fit (x : W3) : Prop := W x.1 ∧ W x.2.1 ∧ W x.2.2
theorem Fit.wd {x : W3} (h : Fit x) (j : Nat) : W (wd x j) := by
  unfold Qxb6618031a.wd
  (repeat' split)
  · exact h.1
  · exact h.2.1
  · exact h.2.2
theorem lt3_num {x y : W3} (hx : Fit x) (hy : Fit y) : Ring.lt3 x y ↔ num x < num y := by
  unfold Fit W at *
  unfold Ring.lt3 num
  omega
theorem num_inj {x y : W3} (hx : Fit x) (hy : Fit y) (h : num x = num y) : x = y := by
  obtain ⟨a, b, c⟩ := x
  obtain ⟨d, e, f⟩ := y
  unfold Fit W at *
  unfold num at h
  simp only [Prod.mk.injEq]
  simp only at h hx hy
  omega
theorem num_range {x : W3} (hx : Fit x) : 0 ≤ num x ∧ num x < 6277101735386680763835789423207666416102355444464034512896 := by
  unfold Fit W at hx
  unfold num
  omega
theorem fit_sub {x a : W3} (hx : Fit x) (ha : Fit a) : Fit (subF x a) := by
  unfold Fit W at *
  unfold subF stepD stepB
  refine ⟨⟨?_, ?_⟩, ⟨?_, ?_⟩, ⟨?_, ?_⟩⟩ <;> dsimp only <;> (repeat' split) <;> omega
theorem num_sub {x a : W3} (hx : Fit x) (ha : Fit a) : num (subF x a) = num x - num a + (if num x < num a then 6277101735386680763835789423207666416102355444464034512896 else 0) := by
  unfold Fit W at *
  unfold subF stepD stepB num
  dsimp only
  (repeat' split) <;> omega
theorem fit_zero : Fit (0, 0, 0) := by unfold Fit W; simp
theorem sub_zero {x a : W3} (hx : Fit x) (ha : Fit a) : subF x a = (0, 0, 0) ↔ x = a := by
  have hn := num_sub hx ha
  have rx := num_range hx
  have ra := num_range ha
  constructor
  · intro h
    rw [h] at hn
    refine num_inj hx ha ?_
    have : num (0, 0, 0) = 0 := by simp [num]
    rw [this] at hn
    split at hn <;> omega
  · intro h
    refine num_inj (fit_sub hx ha) fit_zero ?_
    have : num (0, 0, 0) = 0 := by simp [num]
    rw [hn, this, h]
    simp
/-- the order round the ring, by distances -/
theorem before_sub {x a b : W3} (hx : Fit x) (ha : Fit a) (hb : Fit b) (hax : a ≠ x) : Ring.before x a b ↔ b = x ∨ Ring.lt3 (subF a x) (subF b x) := by
  have na := num_sub ha hx
  have nb := num_sub hb hx
  have rx := num_range hx
  have ra := num_range ha
  have rb := num_range hb
  have hne : num a ≠ num x := fun e => hax (num_inj ha hx e)
  have hbe : b = x ↔ num b = num x := ⟨fun e => by rw [e], fun e => num_inj hb hx e⟩
  unfold Ring.before
  rw [lt3_num hx ha, lt3_num hx hb, lt3_num ha hb, lt3_num (fit_sub ha hx) (fit_sub hb hx), hbe, na, nb]
  (repeat' split) <;> omega
theorem before_self {x b : W3} (hx : Fit x) (hb : Fit b) : ¬ Ring.before x x b := by
  unfold Ring.before
  rw [lt3_num hx hx, lt3_num hx hb]
  omega
/-- what the law asks of an element, and what past asks -/
theorem between_sub {x y z : W3} (hx : Fit x) (hy : Fit y) (hz : Fit z) : Ring.before x z y ↔ subF z x ≠ (0, 0, 0) ∧ (subF y x = (0, 0, 0) ∨ Ring.lt3 (subF z x) (subF y x)) := by
  rw [ne_eq, sub_zero hz hx, sub_zero hy hx]
  by_cases h : z = x
  · subst h
    exact ⟨fun hb => absurd hb (before_self hx hy), fun hb => absurd rfl hb.1⟩
  · rw [before_sub hx hz hy h]
    exact ⟨fun hb => ⟨h, hb⟩, fun hb => hb.2⟩
theorem cmp3F_gt (x y : W3) : 0 < cmp3F x y ↔ Ring.lt3 y x := by
  unfold cmp3F Ring.lt3
  (repeat' split) <;> omega

/-! insertion, by indices -/
def insF (F : Nat → W3) (z : W3) (u j : Nat) : W3 := if j < u then F j else if j = u then z else F (j - 1)
def Sel (x y : W3) (fs : Nat → W3) (m : Nat) (Z : Nat → W3) (t : Nat) (z : W3) : Prop := (∃ k, k < t ∧ Z k = z) ∧ Ring.before x z y ∧ ∀ j, j < m → fs j ≠ z
structure Want (x y : W3) (fs : Nat → W3) (m : Nat) (Z : Nat → W3) (t L : Nat) (F : Nat → W3) : Prop where
  le : L ≤ t
  srt : ∀ a b, a < b → b < L → Ring.before x (F a) (F b)
  mem : ∀ z, (∃ j, j < L ∧ F j = z) ↔ Sel x y fs m Z t z
theorem Want.start (x y : W3) (fs : Nat → W3) (m : Nat) (Z F : Nat → W3) : Want x y fs m Z 0 0 F :=
  ⟨Nat.le_refl _, fun a b _ h => by omega, fun z => ⟨fun ⟨j, h, _⟩ => by omega, fun ⟨⟨k, h, _⟩, _⟩ => by omega⟩⟩
theorem Want.skip {x y : W3} {fs : Nat → W3} {m : Nat} {Z : Nat → W3} {t L : Nat} {F : Nat → W3} (h : Want x y fs m Z t L F) (hz : Sel x y fs m Z (t + 1) (Z t) → ∃ j, j < L ∧ F j = Z t) : Want x y fs m Z (t + 1) L F := by
  refine ⟨Nat.le_succ_of_le h.le, h.srt, fun z => ?_⟩
  constructor
  · intro hj
    obtain ⟨⟨k, hk, e⟩, r⟩ := (h.mem z).1 hj
    exact ⟨⟨k, by omega, e⟩, r⟩
  · rintro ⟨⟨k, hk, e⟩, r⟩
    by_cases hkt : k = t
    · subst hkt
      subst e
      exact hz ⟨⟨k, hk, rfl⟩, r⟩
    · exact (h.mem z).2 ⟨⟨k, by omega, e⟩, r⟩
theorem Want.add {x y : W3} {fs : Nat → W3} {m : Nat} {Z : Nat → W3} {t L : Nat} {F : Nat → W3} (h : Want x y fs m Z t L F) (hb : Ring.before x (Z t) y) (hs : ∀ j, j < m → fs j ≠ Z t) {u : Nat} (hu : u ≤ L)
    (hhi : ∀ j, u ≤ j → j < L → Ring.before x (Z t) (F j)) (hlo : ∀ j, j < u → Ring.before x (F j) (Z t)) : Want x y fs m Z (t + 1) (L + 1) (insF F (Z t) u) := by
  refine ⟨by have := h.le; omega, fun a b hab hbL => ?_, fun z => ?_⟩
  · unfold insF
    by_cases h1 : a < u
    · rw [if_pos h1]
      by_cases h2 : b < u
      · rw [if_pos h2]; exact h.srt a b hab (by omega)
      · rw [if_neg h2]
        by_cases h3 : b = u
        · rw [if_pos h3]; exact hlo a h1
        · rw [if_neg h3]; exact h.srt a (b - 1) (by omega) (by omega)
    · rw [if_neg h1, if_neg (show ¬ b < u by omega), if_neg (show ¬ b = u by omega)]
      by_cases h3 : a = u
      · rw [if_pos h3]; exact hhi (b - 1) (by omega) (by omega)
      · rw [if_neg h3]; exact h.srt (a - 1) (b - 1) (by omega) (by omega)
  · constructor
    · rintro ⟨j, hj, e⟩
      unfold insF at e
      by_cases h1 : j < u
      · rw [if_pos h1] at e
        obtain ⟨⟨k, hk, e'⟩, r⟩ := (h.mem z).1 ⟨j, by omega, e⟩
        exact ⟨⟨k, by omega, e'⟩, r⟩
      · rw [if_neg h1] at e
        by_cases h2 : j = u
        · rw [if_pos h2] at e
          subst e
          exact ⟨⟨t, by omega, rfl⟩, hb, hs⟩
        · rw [if_neg h2] at e
          obtain ⟨⟨k, hk, e'⟩, r⟩ := (h.mem z).1 ⟨j - 1, by omega, e⟩
          exact ⟨⟨k, by omega, e'⟩, r⟩
    · rintro ⟨⟨k, hk, e⟩, r⟩
      by_cases hkt : k = t
      · subst hkt
        exact ⟨u, by omega, by unfold insF; rw [if_neg (Nat.lt_irrefl _), if_pos rfl, e]⟩
      · obtain ⟨j, hj, e'⟩ := (h.mem z).2 ⟨⟨k, by omega, e⟩, r⟩
        by_cases h1 : j < u
        · exact ⟨j, by omega, by unfold insF; rw [if_pos h1, e']⟩
        · exact ⟨j + 1, by omega, by unfold insF; rw [if_neg (by omega), if_neg (by omega), Nat.add_sub_cancel, e']⟩
theorem Want.past {x y : W3} {fs : Nat → W3} {m : Nat} {Z : Nat → W3} {n L : Nat} {F : Nat → W3} (h : Want x y fs m Z n L F) : pastL x y fs m Z n = (List.range L).map F := by
  obtain ⟨h1, h2⟩ := pastL_spec x y fs m Z n
  refine Ring.sorted_unique x _ _ h1 ?_ fun z => ?_
  · refine List.pairwise_iff_getElem.2 fun a b ha hb hab => ?_
    simp only [List.length_map, List.length_range] at ha hb
    simp only [List.getElem_map, List.getElem_range]
    exact h.srt a b hab hb
  · rw [h2]
    have := h.mem z
    simp only [List.mem_map, List.mem_range]
    exact this.symm
end Go.Proofs.Qxb6618031a
