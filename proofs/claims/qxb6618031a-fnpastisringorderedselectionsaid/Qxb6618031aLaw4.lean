/- Plain law for FnLeftOnSettledRing: indices round a ring. No Go here. -/
import Derived.Test.Qxb6618031aLeft
set_option linter.unusedVariables false
namespace Go.Proofs.Qxb6618031a
open Go.RowKit Go.Sort

theorem mod_wrap (a n : Nat) (h : a < 2 * n) : a % n = if a < n then a else a - n := by
  by_cases h1 : a < n
  · rw [if_pos h1, Nat.mod_eq_of_lt h1]
  · rw [if_neg h1, Nat.mod_eq_sub_mod (by omega), Nat.mod_eq_of_lt (by omega)]
/-- the element of the ring without gi -/
def sk (gi t : Nat) : Nat := if t < gi then t else t + 1

theorem law_pred {n i gi ri : Nat} (hn : 2 ≤ n) (hi : i < n) (hg : gi < n) (hne : gi ≠ i) (hri : ri = if gi < i then i - 1 else i) (hp : gi = (i + n - 1) % n) :
    (gi + n - 1) % n = sk gi ((ri + (n - 1) - 1) % (n - 1)) := by
  rw [mod_wrap _ _ (by omega)] at hp
  rw [mod_wrap (gi + n - 1) n (by omega), mod_wrap (ri + (n - 1) - 1) (n - 1) (by split at hri <;> omega)]
  unfold sk
  split at hri <;> subst hri <;> (repeat' split) <;> (repeat' split at hp) <;> omega
theorem law_keep {n i gi ri : Nat} (hn : 2 ≤ n) (hi : i < n) (hg : gi < n) (hne : gi ≠ i) (hri : ri = if gi < i then i - 1 else i) (hp : gi ≠ (i + n - 1) % n) :
    (i + n - 1) % n = sk gi ((ri + (n - 1) - 1) % (n - 1)) := by
  rw [mod_wrap _ _ (by omega)] at hp
  rw [mod_wrap (i + n - 1) n (by omega), mod_wrap (ri + (n - 1) - 1) (n - 1) (by split at hri <;> omega)]
  unfold sk
  split at hri <;> subst hri <;> (repeat' split) <;> (repeat' split at hp) <;> omega
theorem law_succ {n i gi ri j : Nat} (hn : 2 ≤ n) (hi : i < n) (hg : gi < n) (hne : gi ≠ i) (hri : ri = if gi < i then i - 1 else i) (hs : gi = (i + 1) % n) (hj : j < n - 1) :
    (gi + 1 + j) % n = sk gi ((ri + 1 + j) % (n - 1)) := by
  rw [mod_wrap _ _ (by omega)] at hs
  rw [mod_wrap (gi + 1 + j) n (by omega), mod_wrap (ri + 1 + j) (n - 1) (by split at hri <;> omega)]
  unfold sk
  split at hri <;> subst hri <;> (repeat' split) <;> (repeat' split at hs) <;> omega
theorem law_idx {n i gi : Nat} (hn : 2 ≤ n) (hi : i < n) (hg : gi < n) (hs : gi = (i + 1) % n) :
    (∀ j, j < n - 2 → (gi + 1 + j) % n ≠ i) ∧ (gi + 1 + (n - 2)) % n = i := by
  rw [mod_wrap _ _ (by omega)] at hs
  refine ⟨fun j hj => ?_, ?_⟩
  · rw [mod_wrap _ _ (by omega)]
    split <;> split at hs <;> omega
  · rw [mod_wrap _ _ (by omega)]
    split <;> split at hs <;> omega
/-- where i is found among gi's successors -/
theorem law_pg {n gi : Nat} (hn : 2 ≤ n) (hg : gi < n) : (gi + n - 1) % n ≠ gi := by
  rw [mod_wrap _ _ (by omega)]
  split <;> omega
theorem law_first {n i gi : Nat} (hn : 2 ≤ n) (hi : i < n) (hg : gi < n) (hp : gi ≠ (i + n - 1) % n) : (gi + 1) % n ≠ i := by
  rw [mod_wrap _ _ (by omega)] at hp
  rw [mod_wrap _ _ (by omega)]
  split <;> split at hp <;> omega
theorem law_px {n i gi : Nat} (hn : 2 ≤ n) (hi : i < n) (hg : gi < n) (hs : gi ≠ (i + 1) % n) : (gi + n - 1) % n ≠ i := by
  rw [mod_wrap _ _ (by omega)] at hs
  rw [mod_wrap _ _ (by omega)]
  split <;> split at hs <;> omega

/-! strictly ascending: injective -/
theorem cmp3F_lt (x y : W3) : cmp3F x y < 0 ↔ x.1 < y.1 ∨ (x.1 = y.1 ∧ (x.2.1 < y.2.1 ∨ (x.2.1 = y.2.1 ∧ x.2.2 < y.2.2))) := by
  unfold cmp3F
  (repeat' split) <;> omega
theorem cmp3F_trans {x y z : W3} (h1 : cmp3F x y < 0) (h2 : cmp3F y z < 0) : cmp3F x z < 0 := by
  rw [cmp3F_lt] at *
  omega
theorem cmp3F_irrefl (x : W3) : ¬ cmp3F x x < 0 := by
  rw [cmp3F_lt]
  omega
theorem asc_lt {Z : Nat → W3} {n : Nat} (h : ∀ k, k + 1 < n → cmp3F (Z k) (Z (k + 1)) < 0) : ∀ d a, a + d + 1 < n → cmp3F (Z a) (Z (a + d + 1)) < 0
  | 0, a, hl => h a hl
  | d + 1, a, hl => cmp3F_trans (asc_lt h d a (by omega)) (h (a + d + 1) (by omega))
theorem asc_inj {Z : Nat → W3} {n : Nat} (h : ∀ k, k + 1 < n → cmp3F (Z k) (Z (k + 1)) < 0) {a b : Nat} (ha : a < n) (hb : b < n) (e : Z a = Z b) : a = b := by
  rcases Nat.lt_trichotomy a b with hlt | heq | hgt
  · have := asc_lt h (b - a - 1) a (by omega)
    rw [show a + (b - a - 1) + 1 = b by omega, e] at this
    exact absurd this (cmp3F_irrefl _)
  · exact heq
  · have := asc_lt h (a - b - 1) b (by omega)
    rw [show b + (a - b - 1) + 1 = a by omega, e] at this
    exact absurd this (cmp3F_irrefl _)
theorem Row3.congr {w : World} {b o n : Nat} {f g : Nat → W3} (h : Row3 w b o n f) (hfg : ∀ i, i < n → f i = g i) : Row3 w b o n g :=
  ⟨h.1, fun i hi => by rw [← hfg i hi]; exact h.2 i hi⟩
theorem LeftPost.congr {w w' : World} {bp : Nat} {x y y' : W3} {keep L L' : Nat} {f g : Nat → W3} (h : LeftPost w w' bp x y keep L f) (hy : y = y') (hL : L = L') (hfg : ∀ i, i < L → f i = g i) : LeftPost w w' bp x y' keep L' g := by
  subst hy
  subst hL
  obtain ⟨b, c, h1, h2, h3, h4⟩ := h
  exact ⟨b, c, h1, h2, h3, h4.congr hfg⟩
/-- the index of the expected predecessor -/
def pE (n i gi ri : Nat) : Nat := if gi = (i + 1) % n ∨ gi = (i + n - 1) % n then sk gi ((ri + (n - 1) - 1) % (n - 1)) else (i + n - 1) % n

theorem eq3_idx {Z : Nat → W3} {n : Nat} (hinj : ∀ a b, a < n → b < n → Z a = Z b → a = b) {a b : Nat} (ha : a < n) (hb : b < n) (h : a ≠ b) : eq3 (Z a) (Z b) = false :=
  eq3_false fun e => h (hinj a b ha hb e)

/-- Left on a settled ring, by indices. -/
theorem left_law (Z : Nat → W3) (n i gi ri keep m : Nat) (bp bs bg : Nat) (w : World) (hn : 2 ≤ n) (hn1 : n ≤ 100000) (hi : i < n) (hg : gi < n) (hne : gi ≠ i) (hk : 0 < keep) (hri : ri = if gi < i then i - 1 else i) (hm : m = min keep n)
    (hinj : ∀ a b, a < n → b < n → Z a = Z b → a = b)
    (hP : w.heap[bp]? = some (placeObj (Z i) (Z ((i + n - 1) % n)) bs m keep)) (hS : Buf3 w bs m (fun j => Z ((i + 1 + j) % n))) (hG : Buf3 w bg m (fun j => Z ((gi + 1 + j) % n))) (hbs : bp ≠ bs) (hbg : bp ≠ bg) :
    Calls Try.prog 14 #[.pointer (some ⟨bp, 0, none⟩), .agg #[.int .u64 (Z gi).1, .int .u64 (Z gi).2.1, .int .u64 (Z gi).2.2], .agg #[.int .u64 (Z ((gi + n - 1) % n)).1, .int .u64 (Z ((gi + n - 1) % n)).2.1, .int .u64 (Z ((gi + n - 1) % n)).2.2], .slice (some ⟨bg, 0, none⟩) m m] w
      fun e w' => e = .returned (.tuple #[]) ∧ (gi = (i + 1) % n → LeftPost w w' bp (Z i) (Z (pE n i gi ri)) keep (min keep (n - 1)) (fun j => Z (sk gi ((ri + 1 + j) % (n - 1))))) ∧
        (gi ≠ (i + 1) % n → LeftPost w w' bp (Z i) (Z (pE n i gi ri)) keep (min keep n) (fun j => Z ((i + 1 + j) % n))) := by
  have hmod : ∀ a, a % n < n := fun a => Nat.mod_lt _ (by omega)
  have hpg := eq3_idx hinj (hmod (gi + n - 1)) hg (law_pg hn hg)
  by_cases hs : gi = (i + 1) % n
  · obtain ⟨hno, hyes⟩ := law_idx hn hi hg hs
    have hB : eq3 (Z ((i + 1 + 0) % n)) (Z gi) = true := by rw [Nat.add_zero, ← hs]; exact eq3_refl _
    have hL : min keep (n - 1) = min (if min (n - 2) m < m then min (n - 2) m + 1 else m) keep := by split <;> omega
    have hnoj : ∀ j, j < min (n - 2) m → (fun j => Z ((gi + 1 + j) % n)) j ≠ Z i := fun j hj e => hno j (by omega) (hinj _ _ (hmod _) hi e)
    have hyj : min (n - 2) m < m → (fun j => Z ((gi + 1 + j) % n)) (min (n - 2) m) = Z i := fun h => by
      have : min (n - 2) m = n - 2 := by omega
      show Z ((gi + 1 + min (n - 2) m) % n) = Z i
      rw [this, hyes]
    have hidx : ∀ j, j < min keep (n - 1) → Z ((gi + 1 + j) % n) = Z (sk gi ((ri + 1 + j) % (n - 1))) := fun j hj => by rw [law_succ hn hi hg hne hri hs (by omega)]
    by_cases hp : gi = (i + n - 1) % n
    · have hA : eq3 (Z ((i + n - 1) % n)) (Z gi) = true := by rw [← hp]; exact eq3_refl _
      refine (left_tt bp (Z i) _ keep bs m _ bg _ (Z gi) _ (min (n - 2) m) (min keep (n - 1)) w hP hS hG (by omega) (by omega) hk hbs hbg hA hB hpg (by omega) hnoj hyj hL).mono ?_
      rintro e w' ⟨rfl, hl⟩
      exact ⟨rfl, fun _ => hl.congr (by rw [pE, if_pos (Or.inl hs), law_pred hn hi hg hne hri hp]) rfl hidx, fun h => absurd hs h⟩
    · have hA := eq3_idx hinj (hmod (i + n - 1)) hg (Ne.symm hp)
      have hF : eq3 ((fun j => Z ((gi + 1 + j) % n)) 0) (Z i) = false := eq3_idx hinj (hmod _) hi (law_first hn hi hg hp)
      refine (left_ft bp (Z i) _ keep bs m _ bg _ (Z gi) _ (min (n - 2) m) (min keep (n - 1)) w hP hS hG (by omega) (by omega) hk hbs hbg hA hF hB (by omega) hnoj hyj hL).mono ?_
      rintro e w' ⟨rfl, hl⟩
      exact ⟨rfl, fun _ => hl.congr (by rw [pE, if_pos (Or.inl hs), law_keep hn hi hg hne hri hp]) rfl hidx, fun h => absurd hs h⟩
  · have hB : eq3 ((fun j => Z ((i + 1 + j) % n)) 0) (Z gi) = false := eq3_idx hinj (hmod _) hg (fun e => hs e.symm)
    have hpx := eq3_idx hinj (hmod (gi + n - 1)) hi (law_px hn hi hg hs)
    by_cases hp : gi = (i + n - 1) % n
    · have hA : eq3 (Z ((i + n - 1) % n)) (Z gi) = true := by rw [← hp]; exact eq3_refl _
      refine (left_tf bp (Z i) _ keep bs m _ bg _ (Z gi) _ w hP hS hG (by omega) (by omega) hk hbs hbg hA hB hpx hpg).mono ?_
      rintro e w' ⟨rfl, hl⟩
      exact ⟨rfl, fun h => absurd h hs, fun _ => hl.congr (by rw [pE, if_pos (Or.inr hp), law_pred hn hi hg hne hri hp]) hm (fun _ _ => rfl)⟩
    · have hA := eq3_idx hinj (hmod (i + n - 1)) hg (Ne.symm hp)
      have hF : eq3 ((fun j => Z ((gi + 1 + j) % n)) 0) (Z i) = false := eq3_idx hinj (hmod _) hi (law_first hn hi hg hp)
      refine (left_ff bp (Z i) _ keep bs m _ bg _ (Z gi) _ w hP hS hG (by omega) (by omega) hk hbs hbg hA hF hB hpx).mono ?_
      rintro e w' ⟨rfl, hl⟩
      exact ⟨rfl, fun h => absurd h hs, fun _ => hl.congr (by rw [pE, if_neg (fun h => h.elim hs hp)]) hm (fun _ _ => rfl)⟩
end Go.Proofs.Qxb6618031a
