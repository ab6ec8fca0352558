/- Plain mathematics: the order round a ring of words. No Go here. -/
set_option linter.unusedVariables false
namespace Go.Proofs.Qxb6618031a.Ring

abbrev T3 := Int × Int × Int
def lt3 (x y : T3) : Prop := x.1 < y.1 ∨ (x.1 = y.1 ∧ (x.2.1 < y.2.1 ∨ (x.2.1 = y.2.1 ∧ x.2.2 < y.2.2)))
theorem lt3_irrefl (x : T3) : ¬ lt3 x x := by unfold lt3; omega
theorem lt3_trans {x y z : T3} (h1 : lt3 x y) (h2 : lt3 y z) : lt3 x z := by unfold lt3 at *; omega
theorem lt3_tri (x y : T3) : lt3 x y ∨ x = y ∨ lt3 y x := by
  obtain ⟨a, b, c⟩ := x
  obtain ⟨d, e, f⟩ := y
  unfold lt3
  simp only [Prod.mk.injEq]
  omega
theorem lt3_asymm {x y : T3} (h : lt3 x y) : ¬ lt3 y x := fun h' => lt3_irrefl x (lt3_trans h h')
theorem lt3_ne {x y : T3} (h : lt3 x y) : x ≠ y := fun e => lt3_irrefl y (e ▸ h)

/-- a comes before b going round from x (x itself last). -/
def before (x a b : T3) : Prop := (lt3 x a ∧ ¬ lt3 x b) ∨ ((lt3 x a ↔ lt3 x b) ∧ lt3 a b)
theorem before_irrefl (x a : T3) : ¬ before x a a := by
  unfold before
  rintro (⟨h1, h2⟩ | ⟨_, h⟩)
  · exact h2 h1
  · exact lt3_irrefl a h
theorem before_trans {x a b c : T3} (h1 : before x a b) (h2 : before x b c) : before x a c := by
  unfold before at *
  by_cases ha : lt3 x a <;> by_cases hb : lt3 x b <;> by_cases hc : lt3 x c <;> simp [ha, hb, hc] at * <;> exact lt3_trans h1 h2
theorem before_tri (x a b : T3) : before x a b ∨ a = b ∨ before x b a := by
  unfold before
  by_cases ha : lt3 x a <;> by_cases hb : lt3 x b <;> simp [ha, hb] <;> exact lt3_tri a b
theorem before_asymm {x a b : T3} (h : before x a b) : ¬ before x b a := fun h' => before_irrefl x a (before_trans h h')
theorem before_ne {x a b : T3} (h : before x a b) : a ≠ b := fun e => before_irrefl x b (e ▸ h)

/-! strictly sorted lists with the same members are one -/
def Sorted (x : T3) (l : List T3) : Prop := l.Pairwise (before x)
theorem sorted_head {x a : T3} {l : List T3} (h : Sorted x (a :: l)) : ∀ b ∈ l, before x a b := (List.pairwise_cons.1 h).1
theorem sorted_tail {x a : T3} {l : List T3} (h : Sorted x (a :: l)) : Sorted x l := (List.pairwise_cons.1 h).2
theorem sorted_unique (x : T3) : ∀ (l m : List T3), Sorted x l → Sorted x m → (∀ z, z ∈ l ↔ z ∈ m) → l = m
  | [], [], _, _, _ => rfl
  | [], b :: m, _, _, h => absurd ((h b).2 (List.mem_cons_self ..)) (by simp)
  | a :: l, [], _, _, h => absurd ((h a).1 (List.mem_cons_self ..)) (by simp)
  | a :: l, b :: m, hl, hm, h => by
    have hab : a = b := by
      rcases before_tri x a b with h1 | h1 | h1
      · have ha : a ∈ b :: m := (h a).1 (List.mem_cons_self ..)
        rcases List.mem_cons.1 ha with e | hin
        · exact e
        · exact absurd (sorted_head hm a hin) (before_asymm h1)
      · exact h1
      · have hb : b ∈ a :: l := (h b).2 (List.mem_cons_self ..)
        rcases List.mem_cons.1 hb with e | hin
        · exact e.symm
        · exact absurd (sorted_head hl b hin) (before_asymm h1)
    subst hab
    congr 1
    refine sorted_unique x l m (sorted_tail hl) (sorted_tail hm) fun z => ?_
    constructor
    · intro hz
      rcases List.mem_cons.1 ((h z).1 (List.mem_cons_of_mem _ hz)) with e | hin
      · subst e; exact absurd (sorted_head hl z hz) (before_irrefl x z)
      · exact hin
    · intro hz
      rcases List.mem_cons.1 ((h z).2 (List.mem_cons_of_mem _ hz)) with e | hin
      · subst e; exact absurd (sorted_head hm z hz) (before_irrefl x z)
      · exact hin
end Go.Proofs.Qxb6618031a.Ring
