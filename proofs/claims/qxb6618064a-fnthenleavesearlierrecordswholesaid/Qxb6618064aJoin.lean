/- joinAttrs: a row that grows within its room. -/
import Derived.Test.Qxb6618064aEql
set_option linter.unusedVariables false
namespace Go.Proofs.Qxb6618064a
open Go.RowKit Go.Sort

def enc2 (x : A2) : List Value := [.string x.1, .string x.2]
theorem enc2_one (z : A2) : ∀ u ∈ enc2 z, u.oneCell' = true := by
  intro u hu
  simp [enc2] at hu
  rcases hu with rfl | rfl <;> rfl
def box2 (T : TypeId) (x : A2) : Obj := .cells #[.string x.1, .string x.2] T (0, 0)
theorem boxed2 {T : TypeId} {w : World} {b : Nat} {x : A2} (h : w.heap[b]? = some (box2 T x)) : w.cell? ⟨b, 0, none⟩ = some (.string x.1) ∧ w.cell? ⟨b, 1, none⟩ = some (.string x.2) := by
  simp [World.cell?, h, box2]
theorem news2 (T : TypeId) (V : World) (z : A2) : ∀ j u, (enc2 z)[j]? = some u → (V.alloc (box2 T z)).cell? ((⟨V.heap.size, 0, none⟩ : Addr).add j) = some u := by
  intro j u hu
  have hb : (V.alloc (box2 T z)).heap[V.heap.size]? = some (box2 T z) := by show (V.heap.push _)[V.heap.size]? = _; simp
  obtain ⟨c0, c1⟩ := boxed2 hb
  have hj : j < 2 := by
    have := (List.getElem?_eq_some_iff.1 hu).1
    simpa [enc2] using this
  match j, hj with
  | 0, _ => simp [enc2] at hu; subst hu; exact c0
  | 1, _ => simp [enc2] at hu; subst hu; exact c1
/-- to the guide's own ownership, and back behind an append -/
theorem BufA.own {T : TypeId} {w : World} {b cap : Nat} {l : List A2} (h : BufA T w b cap l) (hL : l.length ≤ cap) (hc : cap ≤ maxLen) : ∃ xs : List Value, w.ownsRow 0 T 2 (.slice (some ⟨b, 0, none⟩) l.length cap) l.length xs ∧
    ∀ i x, l[i]? = some x → xs[i * 2]? = some (.string x.1) ∧ xs[i * 2 + 1]? = some (.string x.2) := by
  obtain ⟨c, hb, hs, h3⟩ := h
  refine ⟨c.toList.take (l.length * 2), ⟨?_, Or.inr ⟨b, cap, c, rfl, Nat.zero_le _, hb, hL, hc, hs, rfl⟩⟩, fun i x hx => ?_⟩
  · have hcl : c.toList.length = c.size := Array.length_toList
    rw [List.length_take]
    omega
  · obtain ⟨h0, h1⟩ := h3 i x hx
    have hi := (List.getElem?_eq_some_iff.1 hx).1
    refine ⟨?_, ?_⟩
    · rw [List.getElem?_take, if_pos (by omega), Array.getElem?_toList]; exact h0
    · rw [List.getElem?_take, if_pos (by omega), Array.getElem?_toList]; exact h1
theorem BufA.of_own {T : TypeId} {w : World} {b cap base n : Nat} {l : List A2} {xs : List Value} (h : w.ownsRow base T 2 (.slice (some ⟨b, 0, none⟩) n cap) n xs)
    (hx : ∀ i x, l[i]? = some x → xs[i * 2]? = some (.string x.1) ∧ xs[i * 2 + 1]? = some (.string x.2)) : BufA T w b cap l := by
  obtain ⟨hl, h | ⟨g, cap', c, hv, _, hb, hL, hm, hs, ht⟩⟩ := h
  · obtain ⟨h1, _⟩ := h
    cases h1
  · injection hv with h1 h2 h3
    injection h1 with h1
    injection h1 with h1
    subst h1
    subst h3
    refine ⟨c, hb, hs, fun i x hi => ?_⟩
    subst ht
    obtain ⟨h0, h1⟩ := hx i x hi
    rw [List.getElem?_take] at h0 h1
    split at h0
    · split at h1
      · rw [Array.getElem?_toList] at h0 h1
        exact ⟨h0, h1⟩
      · cases h1
    · cases h0
theorem snoc_cells {l : List A2} {xs : List Value} {z : A2} (hlen : xs.length = l.length * 2) (hx : ∀ i x, l[i]? = some x → xs[i * 2]? = some (.string x.1) ∧ xs[i * 2 + 1]? = some (.string x.2)) :
    ∀ i x, (l ++ [z])[i]? = some x → (xs ++ enc2 z)[i * 2]? = some (.string x.1) ∧ (xs ++ enc2 z)[i * 2 + 1]? = some (.string x.2) := by
  intro i x hi
  by_cases h1 : i < l.length
  · rw [List.getElem?_append_left h1] at hi
    rw [List.getElem?_append_left (by omega), List.getElem?_append_left (by omega)]
    exact hx i x hi
  · rw [List.getElem?_append_right (by omega)] at hi
    have hil : i = l.length := by
      have := (List.getElem?_eq_some_iff.1 hi).1
      simp at this
      omega
    subst hil
    simp at hi
    subst hi
    rw [List.getElem?_append_right (by omega), List.getElem?_append_right (by omega), hlen, Nat.sub_self, show l.length * 2 + 1 - l.length * 2 = 1 by omega]
    simp [enc2]
theorem run_make22c (n : Nat) (hn : n ≤ 1000000) (w : World) : (Instr.makeSlice 22 (.int .i64 0) (.int .i64 n)).run Try.prog w = .ok (.slice (some ⟨w.heap.size, 0, none⟩) 0 n) (w.alloc (.cells (made2 n) 51)) := by
  obtain ⟨i, hi, hz, hs, hb⟩ := info_parts info51
  have := run_make (P := Try.prog) w 22 51 i _ Try.underlying22 hi hz .i64 .i64 0 n (by omega) (by omega) (by rw [hb]; omega) (by omega)
  rw [hs] at this
  exact this
theorem BufA.made {T : TypeId} {w : World} {b n : Nat} (h : w.heap[b]? = some (.cells (made2 n) T (0, 0))) : BufA T w b n [] :=
  ⟨made2 n, h, made2_size n, fun i x hx => by simp at hx⟩

/-- joinAttrs' world: its own row, all else below as it was -/
structure JS (w W : World) (g cap : Nat) (l : List A2) : Prop where
  buf : BufA 51 W g cap l
  below : Below w.heap.size w W
  ge : w.heap.size ≤ g

set_option maxHeartbeats 2000000 in
theorem join_any (ao : Option Addr) (n cap : Nat) (l : List A2) (bo : Option Addr) (n' cap' : Nat) (l' : List A2) (w : World) (hn : n ≤ 200000) (hn' : n' ≤ 200000) (hl : l.length = n) (hl' : l'.length = n') (hR : RowO w ao l) (hR' : RowO w bo l')  :
    Calls Try.prog 12 #[.slice ao n cap, .slice bo n' cap'] w
      fun e w' => e = .returned (.slice (some ⟨w.heap.size, 0, none⟩) (n + n') (n + n')) ∧ JS w w' w.heap.size (n + n') (l ++ l') := by
  obtain ⟨i0, hi, hz, hs, hb⟩ := info_parts info51
  have hmk : ∀ w : World, (Instr.makeSlice 22 (.int .i64 0) (.int .i64 ((n : Int) + n'))).run Try.prog w = .ok (.slice (some ⟨w.heap.size, 0, none⟩) 0 (n + n')) (w.alloc (.cells (made2 (n + n')) 51)) := fun w => by
    have := run_make22c (n + n') (by omega) w
    rwa [Int.natCast_add] at this
  have HL : Hid _ := hl
  have HL' : Hid _ := hl'
  clear hl hl' hz hb
  have h0 : JS w (w.alloc (.cells (made2 (n + n')) 51)) w.heap.size (n + n') (l.take 0) :=
    ⟨BufA.made (by show (w.heap.push _)[w.heap.size]? = _; simp), ((Ext.refl w).alloc _).below, Nat.le_refl _⟩
  go_enter Try.func12, Try.ntmps12
  go_wp2
  go_loopw [6, 5] (fun v6 v5 wr => ∃ k : Nat, k ≤ n ∧ v6 = .int .i64 k ∧ v5 = .slice (some ⟨w.heap.size, 0, none⟩) k (n + n') ∧ JS w wr w.heap.size (n + n') (l.take k)) (fun v6 _ _ => n - (intOf v6).toNat)
  case atStart => exact ⟨0, by omega, rfl, rfl, h0⟩
  case round =>
    obtain ⟨k, hk, rfl, rfl, hJ⟩ := hrel
    clear h0 hmk
    have hlen : (l.take k).length = k := by rw [List.length_take, HL.out]; omega
    by_cases hlt : k < n
    · obtain ⟨b, off, x, rfl, hRr, hx⟩ := (hR).get (i := k) (by rw [HL.out]; exact hlt)
      obtain ⟨a0, a1⟩ := (hRr.of_below hJ.below hRr.1).2 k x hx
      have hwb : b < wr.heap.size := Nat.lt_of_lt_of_le hRr.1 hJ.below.size
      obtain ⟨xs, hown, hxs⟩ := hJ.buf.own (by rw [hlen]; omega) (by unfold maxLen; omega)
      rw [hlen] at hown
      have hxl := hown.1
      have hown1 := hown.alloc (box2 51 x)
      have hnews := news2 51 wr x
      have hone := enc2_one x
      have HX : Hid _ := hx
      have HXS : Hid _ := hxs
      clear hown hx hxs hRr
      go_wp2_with (at_builtin; refine wpList_append_fits _ rfl (.tmp 20) (.tmp 25) 22 rfl 0 51 i0 2 Try.underlying22 hi hs w.heap.size k (n + n') xs rfl hown1 ⟨wr.heap.size, 0, none⟩ 1 1 (enc2 x) rfl rfl hnews hone (by omega) ?_)
      intro w1 hown2 hgr
      have hJ1 : JS w w1 w.heap.size (n + n') (l.take (k + 1)) := by
        have hb1 := BufA.of_own hown2 (snoc_cells (z := x) (by rw [hlen]; exact hxl) HXS.out)
        rw [show l.take k ++ [x] = l.take (k + 1) by rw [List.take_add_one, HX.out]; rfl] at hb1
        exact ⟨hb1, (hJ.below.alloc hJ.below.size _).grown hgr (by simp; exact Nat.le_succ_of_le hJ.below.size) (fun j hj => by injection hj with hj; omega), Nat.le_refl _⟩
      clear hown1 hown2 hgr hnews hone a0 a1 hxl
      go_wp2
      go_roundw
      case rel => exact ⟨k + 1, by omega, by go_num, rfl, hJ1⟩
      case measure => simp [intOf]; omega
    · obtain rfl : n = k := by omega
      have hJ2 : JS w wr w.heap.size (n + n') (l ++ l'.take 0) := by
        have := hJ
        rw [show l.take n = l ++ l'.take 0 by rw [← HL.out, List.take_length]; simp] at this
        exact this
      clear hJ hlen
      go_wp2
      go_loopw [7, 5] (fun v7 v5 wr => ∃ k : Nat, k ≤ n' ∧ v7 = .int .i64 k ∧ v5 = .slice (some ⟨w.heap.size, 0, none⟩) (n + k) (n + n') ∧ JS w wr w.heap.size (n + n') (l ++ l'.take k)) (fun v7 _ _ => n' - (intOf v7).toNat)
      case atStart => exact ⟨0, by omega, rfl, rfl, hJ2⟩
      case round =>
        obtain ⟨k, hk, rfl, rfl, hJ⟩ := hrel
        clear hJ2
        have hlen : (l ++ l'.take k).length = n + k := by rw [List.length_append, List.length_take, HL.out, HL'.out]; omega
        by_cases hlt : k < n'
        · obtain ⟨b, off, x, rfl, hRr, hx⟩ := (hR').get (i := k) (by rw [HL'.out]; exact hlt)
          obtain ⟨a0, a1⟩ := (hRr.of_below hJ.below hRr.1).2 k x hx
          have hwb : b < wr.heap.size := Nat.lt_of_lt_of_le hRr.1 hJ.below.size
          obtain ⟨xs, hown, hxs⟩ := hJ.buf.own (by rw [hlen]; omega) (by unfold maxLen; omega)
          rw [hlen] at hown
          have hxl := hown.1
          have hown1 := hown.alloc (box2 51 x)
          have hnews := news2 51 wr x
          have hone := enc2_one x
          have HX : Hid _ := hx
          have HXS : Hid _ := hxs
          clear hown hx hxs hRr
          go_wp2_with (at_builtin; refine wpList_append_fits _ rfl (.tmp 33) (.tmp 38) 22 rfl 0 51 i0 2 Try.underlying22 hi hs w.heap.size (n + k) (n + n') xs rfl hown1 ⟨wr.heap.size, 0, none⟩ 1 1 (enc2 x) rfl rfl hnews hone (by omega) ?_)
          intro w1 hown2 hgr
          have hJ1 : JS w w1 w.heap.size (n + n') (l ++ l'.take (k + 1)) := by
            have hb1 := BufA.of_own hown2 (snoc_cells (z := x) (by rw [hlen]; exact hxl) HXS.out)
            rw [show (l ++ l'.take k) ++ [x] = l ++ l'.take (k + 1) by rw [List.append_assoc, List.take_add_one, HX.out]; rfl] at hb1
            exact ⟨hb1, (hJ.below.alloc hJ.below.size _).grown hgr (by simp; exact Nat.le_succ_of_le hJ.below.size) (fun j hj => by injection hj with hj; omega), Nat.le_refl _⟩
          clear hown1 hown2 hgr hnews hone a0 a1 hxl
          go_wp2
          go_roundw
          case rel => exact ⟨k + 1, by omega, by go_num, rfl, hJ1⟩
          case measure => simp [intOf]; omega
        · obtain rfl : n' = k := by omega
          have hJ3 : JS w wr w.heap.size (n + n') (l ++ l') := by
            have := hJ
            rw [show l'.take n' = l' by rw [← HL'.out, List.take_length]] at this
            exact this
          clear hJ
          go_wp2
          go_ret
          exact ⟨rfl, hJ3⟩
end Go.Proofs.Qxb6618064a
