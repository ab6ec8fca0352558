/- Plain mathematics: merging a list of named values. No Go here. -/
set_option linter.unusedVariables false
set_option linter.unusedSectionVars false
namespace Go.Proofs.Qxb6618064a.Plain

section
variable {N V : Type} [DecidableEq N] [Inhabited V]

/-- the names, in the order in which each first stands -/
def firsts (l : List (N × V)) : List N := l.foldl (fun acc a => if a.1 ∈ acc then acc else acc ++ [a.1]) []
/-- the value that a name last has -/
def lastV (l : List (N × V)) (nm : N) : Option V := l.foldl (fun acc a => if a.1 = nm then some a.2 else acc) none
/-- the place where a name last stands -/
def lastI : List (N × V) → N → Option Nat
  | [], _ => none
  | a :: l, nm => match lastI l nm with
    | some i => some (i + 1)
    | none => if a.1 = nm then some 0 else none
def lv (l : List (N × V)) (nm : N) : V := (lastV l nm).getD default
/-- each name once, where it first stands, with the value it last has -/
def mergeL (l : List (N × V)) : List (N × V) := (firsts l).map fun nm => (nm, lv l nm)

theorem firsts_snoc (l : List (N × V)) (a : N × V) : firsts (l ++ [a]) = if a.1 ∈ firsts l then firsts l else firsts l ++ [a.1] := by
  unfold firsts
  rw [List.foldl_append]
  rfl
theorem lastV_snoc (l : List (N × V)) (a : N × V) (nm : N) : lastV (l ++ [a]) nm = if a.1 = nm then some a.2 else lastV l nm := by
  simp [lastV, List.foldl_append]
theorem lastI_append (l r : List (N × V)) (nm : N) : lastI (l ++ r) nm = match lastI r nm with
    | some i => some (l.length + i)
    | none => lastI l nm := by
  induction l with
  | nil => cases h : lastI r nm <;> simp [h, lastI]
  | cons a l ih =>
    simp only [List.cons_append, lastI, ih]
    cases h : lastI r nm with
    | none => simp
    | some i => simp [Nat.add_right_comm]
theorem lastI_snoc (l : List (N × V)) (a : N × V) (nm : N) : lastI (l ++ [a]) nm = if a.1 = nm then some l.length else lastI l nm := by
  rw [lastI_append]
  by_cases h : a.1 = nm <;> simp [lastI, h]

/-- induction at the list's end -/
theorem snoc_ind {α : Type} {P : List α → Prop} (h0 : P []) (h1 : ∀ l a, P l → P (l ++ [a])) (l : List α) : P l := by
  have : ∀ r : List α, P r.reverse := by
    intro r
    induction r with
    | nil => exact h0
    | cons a r ih => rw [List.reverse_cons]; exact h1 _ _ ih
  have := this l.reverse
  rwa [List.reverse_reverse] at this

theorem mem_firsts (l : List (N × V)) (nm : N) : nm ∈ firsts l ↔ ∃ v, (nm, v) ∈ l := by
  induction l using snoc_ind with
  | h0 => simp [firsts]
  | h1 l a ih =>
    rw [firsts_snoc]
    by_cases h : a.1 ∈ firsts l
    · rw [if_pos h, ih]
      constructor
      · rintro ⟨v, hv⟩; exact ⟨v, List.mem_append_left _ hv⟩
      · rintro ⟨v, hv⟩
        rcases List.mem_append.1 hv with hv | hv
        · exact ⟨v, hv⟩
        · have e := List.mem_singleton.1 hv
          rw [← ih, show nm = a.1 by rw [← e]]
          exact h
    · rw [if_neg h, List.mem_append, ih]
      constructor
      · rintro (⟨v, hv⟩ | hv)
        · exact ⟨v, List.mem_append_left _ hv⟩
        · refine ⟨a.2, List.mem_append_right _ ?_⟩
          rw [List.mem_singleton.1 hv]
          exact List.mem_singleton.2 rfl
      · rintro ⟨v, hv⟩
        rcases List.mem_append.1 hv with hv | hv
        · exact Or.inl ⟨v, hv⟩
        · right
          have e := List.mem_singleton.1 hv
          rw [← e]
          exact List.mem_singleton.2 rfl
theorem nodup_firsts (l : List (N × V)) : (firsts l).Nodup := by
  induction l using snoc_ind with
  | h0 => simp [firsts]
  | h1 l a ih =>
    rw [firsts_snoc]
    split
    case isTrue h => exact ih
    case isFalse h =>
      rw [List.nodup_append]
      refine ⟨ih, by simp, ?_⟩
      intro x hx y hy e
      rw [List.mem_singleton.1 hy] at e
      exact h (e ▸ hx)
theorem lastV_none (l : List (N × V)) (nm : N) : lastV l nm = none ↔ nm ∉ firsts l := by
  induction l using snoc_ind with
  | h0 => simp [lastV, firsts]
  | h1 l a ih =>
    rw [lastV_snoc, firsts_snoc]
    by_cases e : a.1 = nm
    · rw [if_pos e]
      by_cases h : a.1 ∈ firsts l
      · rw [if_pos h]
        constructor
        · intro h'; cases h'
        · intro h'; exact absurd (e ▸ h) h'
      · rw [if_neg h]
        constructor
        · intro h'; cases h'
        · intro h'; exact absurd (List.mem_append_right _ (List.mem_singleton.2 e.symm)) h'
    · rw [if_neg e, ih]
      by_cases h : a.1 ∈ firsts l
      · rw [if_pos h]
      · rw [if_neg h, List.mem_append, List.mem_singleton]
        constructor
        · intro h' h2
          rcases h2 with h2 | h2
          · exact h' h2
          · exact e h2.symm
        · intro h' h2; exact h' (Or.inl h2)
theorem firsts_append (l r : List (N × V)) : firsts (l ++ r) = firsts l ++ (firsts r).filter (fun nm => decide (nm ∉ firsts l)) := by
  induction r using snoc_ind with
  | h0 => simp [firsts]
  | h1 r a ih =>
    rw [← List.append_assoc, firsts_snoc, firsts_snoc, ih]
    by_cases hr : a.1 ∈ firsts r
    · rw [if_pos hr, if_pos]
      rw [List.mem_append, List.mem_filter]
      by_cases hl : a.1 ∈ firsts l
      · exact Or.inl hl
      · exact Or.inr ⟨hr, by simpa using hl⟩
    · rw [if_neg hr]
      by_cases hl : a.1 ∈ firsts l
      · rw [if_pos (List.mem_append_left _ hl), List.filter_append]
        simp [hl]
      · rw [if_neg, List.filter_append]
        · simp [hl]
        · rw [List.mem_append, List.mem_filter]
          rintro (h | ⟨h, _⟩)
          · exact hl h
          · exact hr h
theorem lastV_append (l r : List (N × V)) (nm : N) : lastV (l ++ r) nm = match lastV r nm with
    | some v => some v
    | none => lastV l nm := by
  induction r using snoc_ind with
  | h0 => simp [lastV]
  | h1 r a ih =>
    rw [← List.append_assoc, lastV_snoc, lastV_snoc, ih]
    split <;> rfl

/-- two lists that merge alike -/
structure Like (l l' : List (N × V)) : Prop where
  names : firsts l = firsts l'
  vals : ∀ nm, lastV l nm = lastV l' nm
theorem Like.refl (l : List (N × V)) : Like l l := ⟨rfl, fun _ => rfl⟩
theorem Like.symm {l l' : List (N × V)} (h : Like l l') : Like l' l := ⟨h.names.symm, fun nm => (h.vals nm).symm⟩
theorem Like.trans {a b c : List (N × V)} (h : Like a b) (k : Like b c) : Like a c := ⟨h.names.trans k.names, fun nm => (h.vals nm).trans (k.vals nm)⟩
theorem Like.append {a a' b b' : List (N × V)} (h : Like a a') (k : Like b b') : Like (a ++ b) (a' ++ b') := by
  refine ⟨by rw [firsts_append, firsts_append, h.names, k.names], fun nm => ?_⟩
  rw [lastV_append, lastV_append, h.vals, k.vals]
theorem Like.merge {l l' : List (N × V)} (h : Like l l') : mergeL l = mergeL l' := by
  unfold mergeL lv
  rw [h.names]
  refine List.map_congr_left fun nm _ => ?_
  rw [h.vals]

/-! a list in which each name stands once -/
theorem firsts_nodup : ∀ (l : List (N × V)), (l.map (·.1)).Nodup → firsts l = l.map (·.1) := by
  intro l
  induction l using snoc_ind with
  | h0 => intro _; rfl
  | h1 l a ih =>
    intro h
    rw [List.map_append, List.nodup_append] at h
    have ih' := ih h.1
    rw [firsts_snoc, ih', if_neg, List.map_append]
    · rfl
    · intro hm
      exact h.2.2 a.1 hm a.1 (by simp) rfl
theorem lastV_nodup : ∀ (l : List (N × V)), (l.map (·.1)).Nodup → ∀ a ∈ l, lastV l a.1 = some a.2 := by
  intro l
  induction l using snoc_ind with
  | h0 => intro _ a ha; cases ha
  | h1 l b ih =>
    intro h a ha
    rw [List.map_append, List.nodup_append] at h
    rw [lastV_snoc]
    rcases List.mem_append.1 ha with ha | ha
    · rw [if_neg, ih h.1 a ha]
      intro e
      exact h.2.2 a.1 (List.mem_map_of_mem ha) b.1 (by simp) e.symm
    · rw [List.mem_singleton.1 ha, if_pos rfl]
theorem names_merge (l : List (N × V)) : (mergeL l).map (·.1) = firsts l := by
  unfold mergeL
  rw [List.map_map]
  exact (List.map_congr_left (fun _ _ => rfl)).trans (List.map_id _)
theorem nodup_merge (l : List (N × V)) : ((mergeL l).map (·.1)).Nodup := by rw [names_merge]; exact nodup_firsts l
theorem Like.merged (l : List (N × V)) : Like (mergeL l) l := by
  have hn := nodup_merge l
  have hf : firsts (mergeL l) = firsts l := by rw [firsts_nodup _ hn, names_merge]
  refine ⟨hf, fun nm => ?_⟩
  by_cases h : nm ∈ firsts l
  · have hm : (nm, lv l nm) ∈ mergeL l := List.mem_map.2 ⟨nm, h, rfl⟩
    have := lastV_nodup _ hn _ hm
    rw [this]
    unfold lv
    cases hv : lastV l nm with
    | none => exact absurd h ((lastV_none l nm).1 hv)
    | some v => rfl
  · rw [(lastV_none _ _).2 h, (lastV_none _ _).2 (by rw [hf]; exact h)]
theorem merge_merge (l : List (N × V)) : mergeL (mergeL l) = mergeL l := (Like.merged l).merge
theorem merge_id {l : List (N × V)} (h : (l.map (·.1)).Nodup) : mergeL l = l := by
  unfold mergeL
  rw [firsts_nodup l h, List.map_map]
  refine (List.map_congr_left fun a ha => ?_).trans (List.map_id _)
  show (a.1, lv l a.1) = a
  unfold lv
  rw [lastV_nodup l h a ha]
  rfl

/-! the last place of a name -/
theorem lastI_spec : ∀ (l : List (N × V)) (nm : N) (i : Nat), lastI l nm = some i → ∃ v, l[i]? = some (nm, v) ∧ lastV l nm = some v := by
  intro l
  induction l using snoc_ind with
  | h0 => intro nm i h; simp [lastI] at h
  | h1 l a ih =>
    intro nm i h
    rw [lastI_snoc] at h
    rw [lastV_snoc]
    by_cases e : a.1 = nm
    · rw [if_pos e] at h
      injection h with h
      subst h
      refine ⟨a.2, ?_, by rw [if_pos e]⟩
      rw [List.getElem?_append_right (Nat.le_refl _), Nat.sub_self, ← e]
      rfl
    · rw [if_neg e] at h
      obtain ⟨v, h1, h2⟩ := ih nm i h
      refine ⟨v, ?_, by rw [if_neg e, h2]⟩
      rw [List.getElem?_append_left (List.getElem?_eq_some_iff.1 h1).1]
      exact h1
theorem lastI_none (l : List (N × V)) (nm : N) : lastI l nm = none ↔ nm ∉ firsts l := by
  induction l using snoc_ind with
  | h0 => simp [lastI, firsts]
  | h1 l a ih =>
    rw [lastI_snoc, firsts_snoc]
    by_cases e : a.1 = nm
    · rw [if_pos e]
      constructor
      · intro h; cases h
      · intro h
        exfalso
        apply h
        split
        case isTrue h' => rw [← e]; exact h'
        case isFalse h' => exact List.mem_append_right _ (List.mem_singleton.2 e.symm)
    · rw [if_neg e, ih]
      split
      · exact Iff.rfl
      · rw [List.mem_append, List.mem_singleton]
        constructor
        · intro h h2
          rcases h2 with h2 | h2
          · exact h h2
          · exact e h2.symm
        · intro h h2; exact h (Or.inl h2)

/-! put: set in its place, or add -/
theorem merge_snoc_new {l : List (N × V)} {a : N × V} (h : a.1 ∉ firsts l) : mergeL (l ++ [a]) = mergeL l ++ [a] := by
  unfold mergeL
  rw [firsts_snoc, if_neg h, List.map_append]
  congr 1
  · refine List.map_congr_left fun nm hnm => ?_
    unfold lv
    rw [lastV_snoc, if_neg (fun e => h (by rw [e]; exact hnm))]
  · show [(a.1, lv (l ++ [a]) a.1)] = [a]
    unfold lv
    rw [lastV_snoc, if_pos rfl]
    rfl
theorem merge_snoc_old {l : List (N × V)} {a : N × V} {i : Nat} (h : lastI (mergeL l) a.1 = some i) : mergeL (l ++ [a]) = (mergeL l).set i a := by
  obtain ⟨v, hi, hv⟩ := lastI_spec _ _ _ h
  have hmem : a.1 ∈ firsts l := by
    rw [← names_merge l]
    exact List.mem_map.2 ⟨_, List.mem_of_getElem? hi, rfl⟩
  have hlen : (mergeL (l ++ [a])).length = (mergeL l).length := by
    unfold mergeL
    rw [List.length_map, List.length_map, firsts_snoc, if_pos hmem]
  refine List.ext_getElem (by rw [hlen, List.length_set]) fun j h1 h2 => ?_
  rw [List.getElem_set]
  have hj : j < (firsts l).length := by rw [hlen] at h1; simpa [mergeL] using h1
  have hi' : i < (firsts l).length := by have := (List.getElem?_eq_some_iff.1 hi).1; simpa [mergeL] using this
  have hname : (firsts l)[i] = a.1 := by
    have e := (List.getElem?_eq_some_iff.1 hi).2
    simp only [mergeL, List.getElem_map] at e
    exact congrArg Prod.fst e
  have e1 : (mergeL (l ++ [a]))[j] = ((firsts l)[j], lv (l ++ [a]) (firsts l)[j]) := by
    simp only [mergeL, List.getElem_map]
    have : firsts (l ++ [a]) = firsts l := by rw [firsts_snoc, if_pos hmem]
    simp only [this]
  rw [e1]
  by_cases hij : i = j
  · subst hij
    rw [if_pos rfl, hname]
    unfold lv
    rw [lastV_snoc, if_pos rfl]
    rfl
  · rw [if_neg hij]
    have hne : a.1 ≠ (firsts l)[j] := fun e => hij ((List.getElem_inj (nodup_firsts l)).1 (hname.trans e))
    simp only [mergeL, List.getElem_map]
    unfold lv
    rw [lastV_snoc, if_neg hne]
theorem names_set {l : List (N × V)} {a : N × V} {i : Nat} {v : V} (h : l[i]? = some (a.1, v)) : (l.set i a).map (·.1) = l.map (·.1) := by
  obtain ⟨hl, e⟩ := List.getElem?_eq_some_iff.1 h
  refine List.ext_getElem (by simp) fun j h1 h2 => ?_
  simp only [List.getElem_map, List.getElem_set]
  split
  case isTrue hij =>
    subst hij
    rw [e]
  case isFalse hij => rfl
theorem lastI_nodup : ∀ (l : List (N × V)), (l.map (·.1)).Nodup → ∀ i a, l[i]? = some a → lastI l a.1 = some i := by
  intro l hn i a hi
  cases h : lastI l a.1 with
  | none =>
    exfalso
    refine (lastI_none l a.1).1 h ?_
    rw [firsts_nodup l hn]
    exact List.mem_map.2 ⟨a, List.mem_of_getElem? hi, rfl⟩
  | some j =>
    obtain ⟨v, hj, _⟩ := lastI_spec l _ _ h
    congr 1
    obtain ⟨h1, e1⟩ := List.getElem?_eq_some_iff.1 hi
    obtain ⟨h2, e2⟩ := List.getElem?_eq_some_iff.1 hj
    refine (List.getElem_inj (h₀ := by simpa using h2) (h₁ := by simpa using h1) hn).1 ?_
    simp only [List.getElem_map, e1, e2]
theorem lastI_set {l : List (N × V)} (hn : (l.map (·.1)).Nodup) {a : N × V} {i : Nat} {v : V} (h : l[i]? = some (a.1, v)) (nm : N) : lastI (l.set i a) nm = lastI l nm := by
  have hn' : ((l.set i a).map (·.1)).Nodup := by rw [names_set h]; exact hn
  cases h1 : lastI l nm with
  | none =>
    rw [lastI_none, firsts_nodup _ hn', names_set h, ← firsts_nodup _ hn, ← lastI_none]
    exact h1
  | some j =>
    obtain ⟨u, hj, _⟩ := lastI_spec l _ _ h1
    obtain ⟨hl, e⟩ := List.getElem?_eq_some_iff.1 hj
    have hjs : (l.set i a)[j]? = some ((l.set i a)[j]'(by simpa using hl)) := List.getElem?_eq_getElem _
    have hname : ((l.set i a)[j]'(by simpa using hl)).1 = nm := by
      rw [List.getElem_set]
      split
      case isTrue hij =>
        subst hij
        have := h.symm.trans hj
        injection this with this
        exact congrArg Prod.fst this
      case isFalse hij => rw [e]
    have := lastI_nodup _ hn' j _ hjs
    rw [hname] at this
    exact this

/-! weights -/
def wt (h : N × V → Nat) (l : List (N × V)) : Nat := (l.map h).sum
theorem wt_snoc (h : N × V → Nat) (l : List (N × V)) (a : N × V) : wt h (l ++ [a]) = wt h l + h a := by simp [wt]
theorem wt_append (h : N × V → Nat) (l r : List (N × V)) : wt h (l ++ r) = wt h l + wt h r := by simp [wt]
theorem wt_set (h : N × V → Nat) : ∀ (l : List (N × V)) (i : Nat) (a b : N × V), l[i]? = some b → wt h (l.set i a) + h b = wt h l + h a
  | [], i, a, b, e => by simp at e
  | c :: l, 0, a, b, e => by
    simp at e
    subst e
    simp [wt]
    omega
  | c :: l, i + 1, a, b, e => by
    have := wt_set h l i a b (by simpa using e)
    simp [wt] at *
    omega
theorem live_new (h : N × V → Nat) {l : List (N × V)} {a : N × V} (hn : lastI l a.1 = none) : wt h (mergeL (l ++ [a])) = wt h (mergeL l) + h a := by
  rw [merge_snoc_new ((lastI_none l a.1).1 hn), wt_snoc]
theorem live_old (h : N × V → Nat) {l : List (N × V)} {a b : N × V} {i : Nat} (hi : lastI l a.1 = some i) (hb : l[i]? = some b) : wt h (mergeL (l ++ [a])) + h b = wt h (mergeL l) + h a := by
  obtain ⟨v, h1, h2⟩ := lastI_spec l _ _ hi
  have hbe : b = (a.1, v) := by
    have := hb.symm.trans h1
    injection this
  have hmem : a.1 ∈ firsts l := by
    apply Classical.byContradiction
    intro hc
    rw [(lastI_none l a.1).2 hc] at hi
    cases hi
  have hm : (a.1, lv l a.1) ∈ mergeL l := List.mem_map.2 ⟨a.1, hmem, rfl⟩
  obtain ⟨j, hj⟩ := List.mem_iff_getElem?.1 hm
  have hlj := lastI_nodup _ (nodup_merge l) j _ hj
  rw [merge_snoc_old (a := a) hlj]
  have := wt_set h (mergeL l) j a _ hj
  have hlv : lv l a.1 = v := by unfold lv; rw [h2]; rfl
  rw [hlv, ← hbe] at this
  exact this
theorem names_len_new {l : List (N × V)} {a : N × V} (hn : lastI l a.1 = none) : (firsts (l ++ [a])).length = (firsts l).length + 1 := by
  rw [firsts_snoc, if_neg ((lastI_none l a.1).1 hn)]
  simp
theorem names_len_old {l : List (N × V)} {a : N × V} {i : Nat} (hi : lastI l a.1 = some i) : (firsts (l ++ [a])).length = (firsts l).length := by
  have hmem : a.1 ∈ firsts l := by
    apply Classical.byContradiction
    intro hc
    rw [(lastI_none l a.1).2 hc] at hi
    cases hi
  rw [firsts_snoc, if_pos hmem]
theorem merge_len (l : List (N × V)) : (mergeL l).length = (firsts l).length := by simp [mergeL]
end
end Go.Proofs.Qxb6618064a.Plain
