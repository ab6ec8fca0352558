/- What past hands back, as a set and an order. No walk here. -/
import Derived.Test.Qxb6618031aPast2
set_option linter.unusedVariables false
namespace Go.Proofs.Qxb6618031a
open Go.RowKit Go.Sort Go.Shelf Go.Lib

theorem comp_spec (x : W3) (Z : Nat → W3) : ∀ j, (∀ a b, a < b → b < j → ¬ Ring.before x (Z b) (Z a)) →
    Ring.Sorted x (comp Z j) ∧ (0 < j → ∃ l, comp Z j = l ++ [Z (j - 1)]) ∧ ∀ z, z ∈ comp Z j ↔ ∃ i, i < j ∧ Z i = z
  | 0, _ => ⟨List.Pairwise.nil, fun h => by omega, fun z => by simp [comp]⟩
  | j + 1, h => by
    obtain ⟨h1, h2, h3⟩ := comp_spec x Z j (fun a b hab hb => h a b hab (by omega))
    by_cases hj : j = 0
    · subst hj
      have hc : comp Z 1 = [Z 0] := by simp [comp]
      rw [hc]
      refine ⟨List.pairwise_singleton _ _, fun _ => ⟨[], rfl⟩, fun z => ?_⟩
      constructor
      · intro hz
        exact ⟨0, by omega, (List.mem_singleton.1 hz).symm⟩
      · rintro ⟨i, hi, e⟩
        obtain rfl : i = 0 := by omega
        exact List.mem_singleton.2 e.symm
    · obtain ⟨l, hl⟩ := h2 (by omega)
      by_cases he : Z j = Z (j - 1)
      · rw [comp_drop (by omega) he]
        refine ⟨h1, fun _ => ⟨l, ?_⟩, fun z => ?_⟩
        · rw [hl]
          show l ++ [Z (j - 1)] = l ++ [Z j]
          rw [he]
        · rw [h3]
          constructor
          · rintro ⟨i, hi, e⟩
            exact ⟨i, by omega, e⟩
          · rintro ⟨i, hi, e⟩
            by_cases hij : i < j
            · exact ⟨i, hij, e⟩
            · obtain rfl : i = j := by omega
              exact ⟨i - 1, by omega, by rw [← he]; exact e⟩
      · rw [comp_keep (Or.inr he)]
        have hlast : Ring.before x (Z (j - 1)) (Z j) := by
          rcases Ring.before_tri x (Z (j - 1)) (Z j) with h' | h' | h'
          · exact h'
          · exact absurd h'.symm he
          · exact absurd h' (h (j - 1) j (by omega) (by omega))
        refine ⟨?_, fun _ => ⟨comp Z j, rfl⟩, fun z => ?_⟩
        · refine List.pairwise_append.2 ⟨h1, List.pairwise_singleton _ _, fun a ha b hb => ?_⟩
          rw [List.mem_singleton.1 hb]
          rw [hl] at ha h1
          rcases List.mem_append.1 ha with ha | ha
          · exact Ring.before_trans ((List.pairwise_append.1 h1).2.2 a ha (Z (j - 1)) (List.mem_singleton.2 rfl)) hlast
          · rw [List.mem_singleton.1 ha]; exact hlast
        · rw [List.mem_append, h3]
          constructor
          · rintro (⟨i, hi, e⟩ | hz)
            · exact ⟨i, by omega, e⟩
            · exact ⟨j, by omega, (List.mem_singleton.1 hz).symm⟩
          · rintro ⟨i, hi, e⟩
            by_cases hij : i < j
            · exact Or.inl ⟨i, hij, e⟩
            · obtain rfl : i = j := by omega
              exact Or.inr (List.mem_singleton.2 e.symm)

theorem sortL_pairwise (x : W3) (l : List W3) : (sortL x l).Pairwise fun a b => ¬ Ring.before x b a := by
  have h := List.pairwise_mergeSort (le := fun a b => !(ltOf (cfF x)) b a) ?_ ?_ l
  · refine List.pairwise_iff_getElem.2 fun i j hi hj hij => ?_
    have hab := List.pairwise_iff_getElem.1 h i j hi hj hij
    have h2 := Bool.not_eq_true' _ ▸ hab
    exact (ltOf_cf_false x _ _).1 h2
  · intro a b c h1 h2
    have h1' : ltOf (cfF x) b a = false := by simpa using h1
    have h2' : ltOf (cfF x) c b = false := by simpa using h2
    have := (swo_cf x).ntrans c b a h2' h1'
    simpa using this
  · intro a b
    cases h1 : ltOf (cfF x) b a with
    | false => simp
    | true =>
      have : ltOf (cfF x) a b = false := (ltOf_cf_false x a b).2 (Ring.before_asymm ((ltOf_cf x b a).1 h1))
      simp [this]

theorem pastL_spec (x y : W3) (fs : Nat → W3) (m : Nat) (Z : Nat → W3) (n : Nat) :
    Ring.Sorted x (pastL x y fs m Z n) ∧ ∀ z, z ∈ pastL x y fs m Z n ↔ (∃ k, k < n ∧ Z k = z) ∧ Ring.before x z y ∧ ∀ j, j < m → fs j ≠ z := by
  have hp := sortL_pairwise x (filt x y fs m Z n)
  have hlen : (sortL x (filt x y fs m Z n)).length = (filt x y fs m Z n).length := by simp [sortL]
  have hidx : ∀ a b, a < b → b < (filt x y fs m Z n).length → ¬ Ring.before x ((fun i => (sortL x (filt x y fs m Z n))[i]!) b) ((fun i => (sortL x (filt x y fs m Z n))[i]!) a) := by
    intro a b hab hb
    show ¬ Ring.before x (sortL x (filt x y fs m Z n))[b]! (sortL x (filt x y fs m Z n))[a]!
    rw [getElem!_pos _ b (by omega), getElem!_pos _ a (by omega)]
    exact List.pairwise_iff_getElem.1 hp a b (by omega) (by omega) hab
  obtain ⟨h1, _, h3⟩ := comp_spec x _ (filt x y fs m Z n).length hidx
  refine ⟨h1, fun z => ?_⟩
  unfold pastL
  rw [h3]
  have hmem : (∃ i, i < (filt x y fs m Z n).length ∧ (sortL x (filt x y fs m Z n))[i]! = z) ↔ z ∈ filt x y fs m Z n := by
    rw [← List.mem_mergeSort (le := fun a b => !(ltOf (cfF x)) b a) (a := z) (l := filt x y fs m Z n)]
    show _ ↔ z ∈ sortL x (filt x y fs m Z n)
    rw [List.mem_iff_getElem]
    constructor
    · rintro ⟨i, hi, e⟩
      refine ⟨i, by omega, ?_⟩
      rw [← e, getElem!_pos _ i (by omega)]
    · rintro ⟨i, hi, e⟩
      refine ⟨i, by omega, ?_⟩
      rw [getElem!_pos _ i (by omega)]
      exact e
  rw [hmem]
  unfold filt keepP
  rw [List.mem_filter, List.mem_map]
  simp only [List.mem_range, Bool.and_eq_true, Bool.not_eq_true', btw_iff]
  constructor
  · rintro ⟨hk, hb, hc⟩
    refine ⟨hk, hb, fun j hj e => ?_⟩
    rw [(containsB_iff fs m z).2 ⟨j, hj, e⟩] at hc
    cases hc
  · rintro ⟨hk, hb, hc⟩
    refine ⟨hk, hb, ?_⟩
    cases h : containsB fs m z with
    | false => rfl
    | true =>
      obtain ⟨j, hj, e⟩ := (containsB_iff fs m z).1 h
      exact absurd e (hc j hj)
end Go.Proofs.Qxb6618031a
