/- The two rows that FnPastIsRingOrderedSelection itself makes, and what else stays as it was. -/
import Derived.Test.Qxb6618031aHolds
import Derived.Test.Qxb6618031aNum
import Derived.Test.Qxb6618031aPast2
set_option linter.unusedVariables false
namespace Go.Proofs.Qxb6618031a
open Go.RowKit Go.Sort

/-- Block b is a row with room for cap elements of three words, of which the first L are F. -/
def BufW (w : World) (b cap L : Nat) (F : Nat → W3) : Prop := ∃ c : Array Value, w.heap[b]? = some (.cells c 28 (0, 0)) ∧ c.size = cap * 3 ∧
  ∀ i, i < L → c[i * 3]? = some (.int .u64 (F i).1) ∧ c[i * 3 + 1]? = some (.int .u64 (F i).2.1) ∧ c[i * 3 + 2]? = some (.int .u64 (F i).2.2)
theorem BufW.lt {w : World} {b cap L : Nat} {F : Nat → W3} (h : BufW w b cap L F) : b < w.heap.size := by
  obtain ⟨c, hc, _⟩ := h
  exact (Array.getElem?_eq_some_iff.1 hc).1
theorem BufW.cell {w : World} {b cap L : Nat} {F : Nat → W3} (h : BufW w b cap L F) {i : Nat} (hi : i < L) :
    w.cell? ⟨b, i * 3, none⟩ = some (.int .u64 (F i).1) ∧ w.cell? ⟨b, i * 3 + 1, none⟩ = some (.int .u64 (F i).2.1) ∧ w.cell? ⟨b, i * 3 + 2, none⟩ = some (.int .u64 (F i).2.2) := by
  obtain ⟨c, hc, _, h3⟩ := h
  simp [World.cell?, hc, h3 i hi]
theorem BufW.frozen {w : World} {b cap L : Nat} {F : Nat → W3} (h : BufW w b cap L F) (o : Nat) : w.frozen? ⟨b, o, none⟩ = false := by
  obtain ⟨c, hc, _, h3⟩ := h
  simp [World.frozen?, hc]
theorem BufW.block {w w' : World} {b cap L : Nat} {F : Nat → W3} (h : BufW w b cap L F) (e : w'.heap[b]? = w.heap[b]?) : BufW w' b cap L F := by
  obtain ⟨c, hc, r⟩ := h
  exact ⟨c, e.trans hc, r⟩
theorem BufW.ext {w w' : World} {b cap L : Nat} {F : Nat → W3} (h : BufW w b cap L F) (hE : Ext w w') : BufW w' b cap L F := h.block (hE.block b h.lt)
theorem BufW.row {w : World} {b cap L : Nat} {F : Nat → W3} (h : BufW w b cap L F) : Row3 w b 0 L F := by
  refine ⟨h.lt, fun i hi => ?_⟩
  simpa using h.cell hi
theorem BufW.congr {w : World} {b cap L : Nat} {F G : Nat → W3} (h : BufW w b cap L F) (hfg : ∀ i, i < L → F i = G i) : BufW w b cap L G := by
  obtain ⟨c, hc, hs, h3⟩ := h
  exact ⟨c, hc, hs, fun i hi => by rw [← hfg i hi]; exact h3 i hi⟩
def set3 (w : World) (b k : Nat) (x : W3) : World := ((w.setCell ⟨b, k * 3, none⟩ (.int .u64 x.1)).setCell ⟨b, k * 3 + 1, none⟩ (.int .u64 x.2.1)).setCell ⟨b, k * 3 + 2, none⟩ (.int .u64 x.2.2)
theorem BufW.set {w : World} {b cap L : Nat} {F : Nat → W3} (h : BufW w b cap L F) (k : Nat) (hk : k < cap) (x : W3) : BufW (set3 w b k x) b cap L (fun i => if i = k then x else F i) := by
  obtain ⟨c, hc, hs, h3⟩ := h
  refine ⟨_, heap_setCell_cells (heap_setCell_cells (heap_setCell_cells hc)), by simp [hs], fun i hi => ?_⟩
  have := h3 i hi
  by_cases hik : i = k
  · subst hik
    simp [Array.getElem?_setIfInBounds, hs]
    refine ⟨by omega, by omega, by omega⟩
  · simp only [if_neg hik, Array.getElem?_setIfInBounds, Array.size_setIfInBounds]
    rw [if_neg (by omega), if_neg (by omega), if_neg (by omega), if_neg (by omega), if_neg (by omega), if_neg (by omega), if_neg (by omega), if_neg (by omega), if_neg (by omega)]
    exact this
theorem set3_other {w : World} {b b' k : Nat} {x : W3} (h : b ≠ b') : (set3 w b k x).heap[b']? = w.heap[b']? := by
  unfold set3
  rw [heap_set_other h, heap_set_other h, heap_set_other h]

/-- to the guide's own ownership, and back behind an append -/
theorem BufW.own {w : World} {b cap L : Nat} {F : Nat → W3} (h : BufW w b cap L F) (hL : L ≤ cap) (hc : cap ≤ maxLen) : ∃ xs : List Value, w.ownsRow 0 28 3 (.slice (some ⟨b, 0, none⟩) L cap) L xs ∧
    ∀ i, i < L → xs[i * 3]? = some (.int .u64 (F i).1) ∧ xs[i * 3 + 1]? = some (.int .u64 (F i).2.1) ∧ xs[i * 3 + 2]? = some (.int .u64 (F i).2.2) := by
  obtain ⟨c, hb, hs, h3⟩ := h
  refine ⟨c.toList.take (L * 3), ⟨?_, Or.inr ⟨b, cap, c, rfl, Nat.zero_le _, hb, hL, hc, hs, rfl⟩⟩, fun i hi => ?_⟩
  · rw [List.length_take, Array.length_toList, hs]
    omega
  · obtain ⟨h0, h1, h2⟩ := h3 i hi
    refine ⟨?_, ?_, ?_⟩
    · rw [List.getElem?_take, if_pos (by omega), Array.getElem?_toList]; exact h0
    · rw [List.getElem?_take, if_pos (by omega), Array.getElem?_toList]; exact h1
    · rw [List.getElem?_take, if_pos (by omega), Array.getElem?_toList]; exact h2
theorem BufW.of_own {w : World} {b cap L : Nat} {F : Nat → W3} {xs : List Value} (h : w.ownsRow 0 28 3 (.slice (some ⟨b, 0, none⟩) L cap) L xs)
    (hx : ∀ i, i < L → xs[i * 3]? = some (.int .u64 (F i).1) ∧ xs[i * 3 + 1]? = some (.int .u64 (F i).2.1) ∧ xs[i * 3 + 2]? = some (.int .u64 (F i).2.2)) : BufW w b cap L F := by
  obtain ⟨hl, h | ⟨g, cap', c, hv, _, hb, hL, hm, hs, ht⟩⟩ := h
  · obtain ⟨h1, _⟩ := h
    cases h1
  · injection hv with h1 h2 h3
    injection h1 with h1
    injection h1 with h1
    subst h1
    subst h3
    refine ⟨c, hb, hs, fun i hi => ?_⟩
    subst ht
    obtain ⟨h0, h1, h2⟩ := hx i hi
    rw [List.getElem?_take, if_pos (by omega), Array.getElem?_toList] at h0 h1 h2
    exact ⟨h0, h1, h2⟩
theorem BufW.append {w : World} {b cap L : Nat} {F : Nat → W3} {xs : List Value} {z : W3} (h : w.ownsRow 0 28 3 (.slice (some ⟨b, 0, none⟩) (L + 1) cap) (L + 1) (xs ++ enc3 z)) (hlen : xs.length = L * 3)
    (hx : ∀ i, i < L → xs[i * 3]? = some (.int .u64 (F i).1) ∧ xs[i * 3 + 1]? = some (.int .u64 (F i).2.1) ∧ xs[i * 3 + 2]? = some (.int .u64 (F i).2.2)) : BufW w b cap (L + 1) (insF F z L) := by
  refine BufW.of_own h fun i hi => ?_
  unfold insF
  by_cases h1 : i < L
  · rw [if_pos h1, List.getElem?_append_left (by omega), List.getElem?_append_left (by omega), List.getElem?_append_left (by omega)]
    exact hx i h1
  · obtain rfl : i = L := by omega
    rw [if_neg h1, if_pos rfl, List.getElem?_append_right (by omega), List.getElem?_append_right (by omega), List.getElem?_append_right (by omega), hlen, Nat.sub_self, show i * 3 + 1 - i * 3 = 1 by omega, show i * 3 + 2 - i * 3 = 2 by omega]
    simp [enc3]

/-- all but the blocks bw and bf is as in W0 -/
structure Fr (W0 W : World) (bw bf : Nat) : Prop where
  os : W.os = W0.os
  tape : W.tape = W0.tape
  output : W.output = W0.output
  size : W0.heap.size ≤ W.heap.size
  block : ∀ k, k < W0.heap.size → k ≠ bw → k ≠ bf → W.heap[k]? = W0.heap[k]?
theorem Fr.refl (W0 : World) (bw bf : Nat) : Fr W0 W0 bw bf := ⟨rfl, rfl, rfl, Nat.le_refl _, fun _ _ _ _ => rfl⟩
theorem Fr.ext {W0 W W' : World} {bw bf : Nat} (h : Fr W0 W bw bf) (hE : Ext W W') : Fr W0 W' bw bf :=
  ⟨hE.below.os.trans h.os, hE.below.tape.trans h.tape, hE.below.output.trans h.output, Nat.le_trans h.size hE.size, fun k hk h1 h2 => (hE.block k (Nat.lt_of_lt_of_le hk h.size)).trans (h.block k hk h1 h2)⟩
theorem Fr.grown {W0 W W' : World} {bw bf g : Nat} (h : Fr W0 W bw bf) (hg : W.grownBy W' (some g)) (hb : g = bw ∨ g = bf) : Fr W0 W' bw bf :=
  ⟨hg.os.trans h.os, hg.tape.trans h.tape, hg.output.trans h.output, Nat.le_trans h.size hg.size, fun k hk h1 h2 => (hg.block k (Nat.lt_of_lt_of_le hk h.size) (fun e => by
    injection e with e
    subst e
    rcases hb with hb | hb
    · exact h1 hb
    · exact h2 hb)).trans (h.block k hk h1 h2)⟩
theorem Fr.set3 {W0 W : World} {bw bf g k : Nat} {x : W3} (h : Fr W0 W bw bf) (hb : g = bw ∨ g = bf) : Fr W0 (set3 W g k x) bw bf :=
  ⟨h.os, h.tape, h.output, by
    have : (Qxb6618031a.set3 W g k x).heap.size = W.heap.size := by simp [Qxb6618031a.set3, World.setCell]
    rw [this]; exact h.size, fun k' hk h1 h2 => (set3_other (show g ≠ k' by rcases hb with hb | hb <;> omega)).trans (h.block k' hk h1 h2)⟩
theorem Row3.fr {W0 W : World} {bw bf b off n : Nat} {Z : Nat → W3} (h : Row3 W0 b off n Z) (hF : Fr W0 W bw bf) (h1 : b ≠ bw) (h2 : b ≠ bf) : Row3 W b off n Z := by
  refine ⟨Nat.lt_of_lt_of_le h.1 hF.size, fun i hi => ?_⟩
  have e := hF.block b h.1 h1 h2
  obtain ⟨c0, c1, c2⟩ := h.2 i hi
  refine ⟨?_, ?_, ?_⟩
  · rw [← c0]; simp [World.cell?, e]
  · rw [← c1]; simp [World.cell?, e]
  · rw [← c2]; simp [World.cell?, e]
end Go.Proofs.Qxb6618031a
