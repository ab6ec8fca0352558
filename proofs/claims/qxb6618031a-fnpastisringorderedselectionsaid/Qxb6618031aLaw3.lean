/- Plain law for FnSettledPlaceAndPast: what past hands back on a settled ring, by indices. No walk here. -/
import Derived.Test.Qxb6618031aPastLaw
import Derived.Test.Qxb6618031aTail4
set_option linter.unusedVariables false
namespace Go.Proofs.Qxb6618031a
open Go.RowKit Go.Sort

theorem lt3_cmp (x y : W3) : Ring.lt3 x y ↔ cmp3F x y < 0 := by rw [cmp3F_lt]; exact Iff.rfl

/-- the order of the ring, by indices -/
theorem lt3_idx {Z : Nat → W3} {n : Nat} (h : ∀ k, k + 1 < n → cmp3F (Z k) (Z (k + 1)) < 0) {a b : Nat} (ha : a < n) (hb : b < n) : Ring.lt3 (Z a) (Z b) ↔ a < b := by
  rw [lt3_cmp]
  constructor
  · intro hl
    rcases Nat.lt_trichotomy a b with h1 | h1 | h1
    · exact h1
    · subst h1; exact absurd hl (cmp3F_irrefl _)
    · have := asc_lt h (a - b - 1) b (by omega)
      rw [show b + (a - b - 1) + 1 = a by omega] at this
      exact absurd (cmp3F_trans hl this) (cmp3F_irrefl _)
  · intro hl
    have := asc_lt h (b - a - 1) a (by omega)
    rwa [show a + (b - a - 1) + 1 = b by omega] at this

theorem before_idx {Z : Nat → W3} {n : Nat} (h : ∀ k, k + 1 < n → cmp3F (Z k) (Z (k + 1)) < 0) {i a b : Nat} (hi : i < n) (ha : a < n) (hb : b < n) :
    Ring.before (Z i) (Z a) (Z b) ↔ (i < a ∧ ¬ i < b) ∨ ((i < a ↔ i < b) ∧ a < b) := by
  unfold Ring.before
  rw [lt3_idx h hi ha, lt3_idx h hi hb, lt3_idx h ha hb]

/-- a distance round the ring -/
def rnd (n i a : Nat) : Nat := if i < a then a - i - 1 else a + n - i - 1
theorem rnd_lt {n i a : Nat} (hi : i < n) (ha : a < n) : rnd n i a < n := by unfold rnd; split <;> omega
theorem rnd_mod {n i d : Nat} (hi : i < n) (hd : d < n) : rnd n i ((i + 1 + d) % n) = d := by
  rw [mod_wrap _ _ (by omega)]
  unfold rnd
  (repeat' split) <;> omega
theorem mod_rnd {n i a : Nat} (hi : i < n) (ha : a < n) : (i + 1 + rnd n i a) % n = a := by
  have := rnd_lt hi ha
  rw [mod_wrap _ _ (by omega)]
  unfold rnd
  (repeat' split) <;> omega
theorem before_rnd {Z : Nat → W3} {n : Nat} (h : ∀ k, k + 1 < n → cmp3F (Z k) (Z (k + 1)) < 0) {i a b : Nat} (hi : i < n) (ha : a < n) (hb : b < n) :
    Ring.before (Z i) (Z a) (Z b) ↔ rnd n i a < rnd n i b := by
  rw [before_idx h hi ha hb]
  unfold rnd
  (repeat' split) <;> omega

def want3 (n k : Nat) : Nat := if k < n - 2 then n - 2 - k else 0

theorem past_ring {Z : Nat → W3} {n : Nat} (h : ∀ k, k + 1 < n → cmp3F (Z k) (Z (k + 1)) < 0) {i k p : Nat} (hi : i < n) (hk : k ≤ n) (hp : p = (i + n - 1) % n) :
    pastL (Z i) (Z p) (fun j => Z ((i + 1 + j) % n)) k Z n = (List.range (want3 n k)).map (fun t => Z ((i + 1 + k + t) % n)) := by
  obtain ⟨h1, h2⟩ := pastL_spec (Z i) (Z p) (fun j => Z ((i + 1 + j) % n)) k Z n
  have hmod : ∀ a, a % n < n := fun a => Nat.mod_lt _ (by omega)
  have hpn : p < n := by rw [hp]; exact hmod _
  have hrp : rnd n i p = n - 2 ∨ n = 1 := by
    by_cases hn : n = 1
    · exact Or.inr hn
    · left
      have := rnd_mod (n := n) (i := i) (d := n - 2) hi (by omega)
      rw [hp, show i + n - 1 = i + 1 + (n - 2) by omega]
      exact this
  refine Ring.sorted_unique (Z i) _ _ h1 ?_ fun z => ?_
  · refine List.pairwise_iff_getElem.2 fun a b ha hb hab => ?_
    simp only [List.length_map, List.length_range] at ha hb
    simp only [List.getElem_map, List.getElem_range]
    have hw : want3 n k ≤ n - 2 - k := by unfold want3; split <;> omega
    rw [before_rnd h hi (hmod _) (hmod _), Nat.add_assoc (i + 1) k a, Nat.add_assoc (i + 1) k b, rnd_mod hi (by omega), rnd_mod hi (by omega)]
    omega
  · rw [h2]
    simp only [List.mem_map, List.mem_range]
    constructor
    · rintro ⟨⟨a, ha, rfl⟩, hb, hc⟩
      rw [before_rnd h hi ha hpn] at hb
      have hra := rnd_lt hi ha
      have hge : k ≤ rnd n i a := by
        apply Classical.byContradiction
        intro hlt
        exact hc (rnd n i a) (by omega) (by show Z ((i + 1 + rnd n i a) % n) = Z a; rw [mod_rnd hi ha])
      rcases hrp with hrp | hn1
      · refine ⟨rnd n i a - k, ?_, ?_⟩
        · unfold want3; split <;> omega
        · rw [show i + 1 + k + (rnd n i a - k) = i + 1 + rnd n i a by omega, mod_rnd hi ha]
      · exfalso
        have := rnd_lt hi hpn
        omega
    · rintro ⟨t, ht, rfl⟩
      have hw : k < n - 2 ∧ t < n - 2 - k := by unfold want3 at ht; split at ht <;> omega
      refine ⟨⟨_, hmod _, rfl⟩, ?_, fun j hj e => ?_⟩
      · rw [before_rnd h hi (hmod _) hpn, Nat.add_assoc (i + 1) k t, rnd_mod hi (by omega)]
        omega
      · have e' := asc_inj h (hmod _) (hmod _) e
        have := congrArg (rnd n i) e'
        rw [rnd_mod hi (by omega), Nat.add_assoc (i + 1) k t, rnd_mod hi (by omega)] at this
        omega
end Go.Proofs.Qxb6618031a
