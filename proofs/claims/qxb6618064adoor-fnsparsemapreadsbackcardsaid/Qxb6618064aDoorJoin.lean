/- Rows that grow; the flat cells of a row. -/
import Derived.Test.Qxb6618064aDoorZero
set_option linter.unusedVariables false
namespace Go.Proofs.Qxb6618064aDoor
open Go.RowKit Go.Sort

def enc2 (x : A2) : List Value := [.int .i64 x.1, .int .i64 x.2]
theorem enc2_one (z : A2) : ∀ u ∈ enc2 z, u.oneCell' = true := by
  intro u hu
  simp [enc2] at hu
  rcases hu with rfl | rfl <;> rfl
def box2 (T : TypeId) (x : A2) : Obj := .cells #[.int .i64 x.1, .int .i64 x.2] T (0, 0)
theorem boxed2 {T : TypeId} {w : World} {b : Nat} {x : A2} (h : w.heap[b]? = some (box2 T x)) : w.cell? ⟨b, 0, none⟩ = some (.int .i64 x.1) ∧ w.cell? ⟨b, 1, none⟩ = some (.int .i64 x.2) := by
  simp [World.cell?, h, box2]
theorem news2 (T : TypeId) (V : World) (z : A2) : ∀ j u, (enc2 z)[j]? = some u → (V.alloc (box2 T z)).cell? ((⟨V.heap.size, 0, none⟩ : Addr).add j) = some u := by
  intro j u hu
  have hb : (V.alloc (box2 T z)).heap[V.heap.size]? = some (box2 T z) := by show (V.heap.push _)[V.heap.size]? = _; simp
  obtain ⟨c0, c1⟩ := boxed2 hb
  have hj : j < 2 := by
    have := (List.getElem?_eq_some_iff.1 hu).1
    simpa [enc2] using this
  match j, hj with
  | 0, _ => simp [enc2] at hu; subst hu; exact c0
  | 1, _ => simp [enc2] at hu; subst hu; exact c1
/-- to the guide's own ownership, and back behind an append -/
theorem BufA.own {T : TypeId} {w : World} {b cap : Nat} {l : List A2} (h : BufA T w b cap l) (hL : l.length ≤ cap) (hc : cap ≤ maxLen) : ∃ xs : List Value, w.ownsRow 0 T 2 (.slice (some ⟨b, 0, none⟩) l.length cap) l.length xs ∧
    ∀ i x, l[i]? = some x → xs[i * 2]? = some (.int .i64 x.1) ∧ xs[i * 2 + 1]? = some (.int .i64 x.2) := by
  obtain ⟨c, hb, hs, h3⟩ := h
  refine ⟨c.toList.take (l.length * 2), ⟨?_, Or.inr ⟨b, cap, c, rfl, Nat.zero_le _, hb, hL, hc, hs, rfl⟩⟩, fun i x hx => ?_⟩
  · have hcl : c.toList.length = c.size := Array.length_toList
    rw [List.length_take]
    omega
  · obtain ⟨h0, h1⟩ := h3 i x hx
    have hi := (List.getElem?_eq_some_iff.1 hx).1
    refine ⟨?_, ?_⟩
    · rw [List.getElem?_take, if_pos (by omega), Array.getElem?_toList]; exact h0
    · rw [List.getElem?_take, if_pos (by omega), Array.getElem?_toList]; exact h1
theorem BufA.of_own {T : TypeId} {w : World} {b cap base n : Nat} {l : List A2} {xs : List Value} (h : w.ownsRow base T 2 (.slice (some ⟨b, 0, none⟩) n cap) n xs)
    (hx : ∀ i x, l[i]? = some x → xs[i * 2]? = some (.int .i64 x.1) ∧ xs[i * 2 + 1]? = some (.int .i64 x.2)) : BufA T w b cap l := by
  obtain ⟨hl, h | ⟨g, cap', c, hv, _, hb, hL, hm, hs, ht⟩⟩ := h
  · obtain ⟨h1, _⟩ := h
    cases h1
  · injection hv with h1 h2 h3
    injection h1 with h1
    injection h1 with h1
    subst h1
    subst h3
    refine ⟨c, hb, hs, fun i x hi => ?_⟩
    subst ht
    obtain ⟨h0, h1⟩ := hx i x hi
    rw [List.getElem?_take] at h0 h1
    split at h0
    · split at h1
      · rw [Array.getElem?_toList] at h0 h1
        exact ⟨h0, h1⟩
      · cases h1
    · cases h0
theorem snoc_cells {l : List A2} {xs : List Value} {z : A2} (hlen : xs.length = l.length * 2) (hx : ∀ i x, l[i]? = some x → xs[i * 2]? = some (.int .i64 x.1) ∧ xs[i * 2 + 1]? = some (.int .i64 x.2)) :
    ∀ i x, (l ++ [z])[i]? = some x → (xs ++ enc2 z)[i * 2]? = some (.int .i64 x.1) ∧ (xs ++ enc2 z)[i * 2 + 1]? = some (.int .i64 x.2) := by
  intro i x hi
  by_cases h1 : i < l.length
  · rw [List.getElem?_append_left h1] at hi
    rw [List.getElem?_append_left (by omega), List.getElem?_append_left (by omega)]
    exact hx i x hi
  · rw [List.getElem?_append_right (by omega)] at hi
    have hil : i = l.length := by
      have := (List.getElem?_eq_some_iff.1 hi).1
      simp at this
      omega
    subst hil
    simp at hi
    subst hi
    rw [List.getElem?_append_right (by omega), List.getElem?_append_right (by omega), hlen, Nat.sub_self, show l.length * 2 + 1 - l.length * 2 = 1 by omega]
    simp [enc2]
theorem run_make29c (n : Nat) (hn : n ≤ 1000000) (w : World) : (Instr.makeSlice 29 (.int .i64 0) (.int .i64 n)).run Tryd.prog w = .ok (.slice (some ⟨w.heap.size, 0, none⟩) 0 n) (w.alloc (.cells (made2 n) 33)) := by
  obtain ⟨i, hi, hz, hs, hb⟩ := info_parts info33
  have := run_make (P := Tryd.prog) w 29 33 i _ Tryd.underlying29 hi hz .i64 .i64 0 n (by omega) (by omega) (by rw [hb]; omega) (by omega)
  rw [hs] at this
  exact this
theorem BufA.made {T : TypeId} {w : World} {b n : Nat} (h : w.heap[b]? = some (.cells (made2 n) T (0, 0))) : BufA T w b n [] :=
  ⟨made2 n, h, made2_size n, fun i x hx => by simp at hx⟩


/-! the flat cells of a row -/
def flat (l : List A2) : List Value := l.flatMap enc2
theorem flat_len (l : List A2) : (flat l).length = l.length * 2 := by
  induction l with
  | nil => rfl
  | cons x l ih => simp [flat, enc2] at ih ⊢; omega
theorem flat_get (l : List A2) : ∀ i x, l[i]? = some x → (flat l)[i * 2]? = some (.int .i64 x.1) ∧ (flat l)[i * 2 + 1]? = some (.int .i64 x.2) := by
  induction l with
  | nil => intro i x h; simp at h
  | cons y l ih =>
    intro i x h
    cases i with
    | zero => simp at h; subst h; simp [flat, enc2]
    | succ i =>
      simp at h
      obtain ⟨a, b⟩ := ih i x h
      have e1 : (i + 1) * 2 = i * 2 + 2 := by omega
      have e2 : (i + 1) * 2 + 1 = i * 2 + 1 + 2 := by omega
      rw [e2, e1]
      simp only [flat, List.flatMap_cons, enc2] at a b ⊢
      exact ⟨a, b⟩
theorem flat_inv (l : List A2) : ∀ j u, (flat l)[j]? = some u → ∃ x, l[j / 2]? = some x ∧ u = if j % 2 = 0 then .int .i64 x.1 else .int .i64 x.2 := by
  intro j u h
  have hj : j < l.length * 2 := by
    have := (List.getElem?_eq_some_iff.1 h).1
    rwa [flat_len] at this
  have hd : j / 2 < l.length := by omega
  refine ⟨l[j / 2], List.getElem?_eq_getElem hd, ?_⟩
  obtain ⟨a, b⟩ := flat_get l (j / 2) _ (List.getElem?_eq_getElem hd)
  by_cases h2 : j % 2 = 0
  · rw [if_pos h2]
    rw [show j / 2 * 2 = j by omega, h] at a
    injection a
  · rw [if_neg h2]
    rw [show j / 2 * 2 + 1 = j by omega, h] at b
    injection b
theorem RowA.flat {w : World} {b off : Nat} {l : List A2} (h : RowA w b off l) : ∀ j u, (Qxb6618064aDoor.flat l)[j]? = some u → w.cell? ((⟨b, off, none⟩ : Addr).add j) = some u := by
  intro j u hu
  obtain ⟨x, hx, rfl⟩ := flat_inv l j u hu
  obtain ⟨a, c⟩ := h.2 (j / 2) x hx
  have hadd : (⟨b, off, none⟩ : Addr).add j = ⟨b, off + j, none⟩ := by unfold Addr.add; split <;> simp_all
  rw [hadd]
  by_cases h2 : j % 2 = 0
  · rw [if_pos h2]
    rw [show off + j / 2 * 2 = off + j by omega] at a
    exact a
  · rw [if_neg h2]
    rw [show off + j / 2 * 2 + 1 = off + j by omega] at c
    exact c
end Go.Proofs.Qxb6618064aDoor
