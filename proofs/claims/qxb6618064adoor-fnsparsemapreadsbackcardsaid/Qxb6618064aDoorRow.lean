/- Rows of two int64s, that came in or that the call makes. -/
import Derived.Test.Qxb6618064aDoorBase
set_option linter.unusedVariables false
namespace Go.Proofs.Qxb6618064aDoor
open Go.RowKit Go.Sort

/-- the name of the table of powers of ten, off the given row -/
abbrev powN : String := (Rows.fnSparseMapSaysTheHoleOnceRow.laid.getD 2 (default, .nil)).1
abbrev A2 := Int × Int
/-- the cells at b, from off on, are the regions l -/
def RowA (w : World) (b off : Nat) (l : List A2) : Prop := b < w.heap.size ∧
  ∀ i x, l[i]? = some x → w.cell? ⟨b, off + i * 2, none⟩ = some (.int .i64 x.1) ∧ w.cell? ⟨b, off + i * 2 + 1, none⟩ = some (.int .i64 x.2)
theorem RowA.ext {w w' : World} {b off : Nat} {l : List A2} (h : RowA w b off l) (hE : Ext w w') : RowA w' b off l := by
  refine ⟨Nat.lt_of_lt_of_le h.1 hE.size, fun i x hx => ?_⟩
  obtain ⟨c0, c1⟩ := h.2 i x hx
  exact ⟨(hE.cells.1 _ _ h.1).trans c0, (hE.cells.1 _ _ h.1).trans c1⟩
theorem RowA.of_below {w W : World} {b off : Nat} {l : List A2} {B : Nat} (h : RowA w b off l) (hB : Below B w W) (hb : b < B) : RowA W b off l := by
  refine ⟨Nat.lt_of_lt_of_le h.1 hB.size, fun i x hx => ?_⟩
  obtain ⟨c0, c1⟩ := h.2 i x hx
  exact ⟨(hB.cell (p := ⟨b, _, none⟩) hb).trans c0, (hB.cell (p := ⟨b, _, none⟩) hb).trans c1⟩
theorem RowA.quiet {w : World} {b off : Nat} {l : List A2} (h : RowA w b off l) {i : Nat} {x : A2} (hx : l[i]? = some x) :
    (∀ m os, (grow (w.drewN m) os).cell? ⟨b, off + i * 2, none⟩ = some (.int .i64 x.1)) ∧ (∀ m os, (grow (w.drewN m) os).cell? ⟨b, off + i * 2 + 1, none⟩ = some (.int .i64 x.2)) :=
  ⟨fun m os => ((h.ext (w' := grow (w.drewN m) os) ⟨m, os, rfl⟩).2 i x hx).1, fun m os => ((h.ext (w' := grow (w.drewN m) os) ⟨m, os, rfl⟩).2 i x hx).2⟩
/-- a slice of regions, nil and empty too -/
def RowO (w : World) (ao : Option Addr) (l : List A2) : Prop := l = [] ∨ ∃ b off, ao = some ⟨b, off, none⟩ ∧ RowA w b off l
theorem RowO.ext {w w' : World} {ao : Option Addr} {l : List A2} (h : RowO w ao l) (hE : Ext w w') : RowO w' ao l := by
  rcases h with h | ⟨b, off, e, hR⟩
  · exact Or.inl h
  · exact Or.inr ⟨b, off, e, hR.ext hE⟩
theorem RowO.get {w : World} {ao : Option Addr} {l : List A2} (h : RowO w ao l) {i : Nat} (hi : i < l.length) : ∃ b off x, ao = some ⟨b, off, none⟩ ∧ RowA w b off l ∧ l[i]? = some x := by
  rcases h with h | ⟨b, off, e, hR⟩
  · rw [h] at hi; simp at hi
  · exact ⟨b, off, l[i], e, hR, List.getElem?_eq_getElem hi⟩

/-- Block b, of element type T, has room for cap regions; the first are l. -/
def BufA (T : TypeId) (w : World) (b cap : Nat) (l : List A2) : Prop := ∃ c : Array Value, w.heap[b]? = some (.cells c T (0, 0)) ∧ c.size = cap * 2 ∧
  ∀ i x, l[i]? = some x → c[i * 2]? = some (.int .i64 x.1) ∧ c[i * 2 + 1]? = some (.int .i64 x.2)
theorem BufA.lt {T : TypeId} {w : World} {b cap : Nat} {l : List A2} (h : BufA T w b cap l) : b < w.heap.size := by
  obtain ⟨c, hc, _⟩ := h
  exact (Array.getElem?_eq_some_iff.1 hc).1
theorem BufA.block {T : TypeId} {w w' : World} {b cap : Nat} {l : List A2} (h : BufA T w b cap l) (e : w'.heap[b]? = w.heap[b]?) : BufA T w' b cap l := by
  obtain ⟨c, hc, r⟩ := h
  exact ⟨c, e.trans hc, r⟩
theorem BufA.ext {T : TypeId} {w w' : World} {b cap : Nat} {l : List A2} (h : BufA T w b cap l) (hE : Ext w w') : BufA T w' b cap l := h.block (hE.block b h.lt)
theorem BufA.cell {T : TypeId} {w : World} {b cap : Nat} {l : List A2} (h : BufA T w b cap l) {i : Nat} {x : A2} (hx : l[i]? = some x) :
    w.cell? ⟨b, i * 2, none⟩ = some (.int .i64 x.1) ∧ w.cell? ⟨b, i * 2 + 1, none⟩ = some (.int .i64 x.2) := by
  obtain ⟨c, hc, _, h3⟩ := h
  simp [World.cell?, hc, h3 i x hx]
theorem BufA.frozen {T : TypeId} {w : World} {b cap : Nat} {l : List A2} (h : BufA T w b cap l) (o : Nat) : w.frozen? ⟨b, o, none⟩ = false := by
  obtain ⟨c, hc, _, h3⟩ := h
  simp [World.frozen?, hc]
theorem BufA.row {T : TypeId} {w : World} {b cap : Nat} {l : List A2} (h : BufA T w b cap l) : RowA w b 0 l := by
  refine ⟨h.lt, fun i x hx => ?_⟩
  simpa using h.cell hx
theorem BufA.take {T : TypeId} {w : World} {b cap : Nat} {l : List A2} (h : BufA T w b cap l) (n : Nat) : BufA T w b cap (l.take n) := by
  obtain ⟨c, hc, hs, h3⟩ := h
  refine ⟨c, hc, hs, fun i x hx => h3 i x ?_⟩
  rw [List.getElem?_take] at hx
  split at hx
  · exact hx
  · cases hx
theorem heap_set_same {w : World} {b o : Nat} {v : Value} {c : Array Value} {t : TypeId} {fr : Nat × Nat} (h : w.heap[b]? = some (.cells c t fr)) :
    (w.setCell ⟨b, o, none⟩ v).heap[b]? = some (.cells (c.setIfInBounds o v) t fr) := by
  simp [World.setCell, Array.getElem?_modify, h]
theorem heap_set_other {w : World} {b b' o : Nat} {v : Value} (h : b' ≠ b) : (w.setCell ⟨b', o, none⟩ v).heap[b]? = w.heap[b]? := by
  simp [World.setCell, Array.getElem?_modify, h]
def set2 (w : World) (b k : Nat) (x : A2) : World := (w.setCell ⟨b, k * 2, none⟩ (.int .i64 x.1)).setCell ⟨b, k * 2 + 1, none⟩ (.int .i64 x.2)
theorem set2_other {w : World} {b b' k : Nat} {x : A2} (h : b ≠ b') : (set2 w b k x).heap[b']? = w.heap[b']? := by
  unfold set2
  rw [heap_set_other h, heap_set_other h]
/-- one element written in its place, or right behind the last -/
theorem BufA.put {T : TypeId} {w : World} {b cap : Nat} {l l' : List A2} (h : BufA T w b cap l) {k : Nat} (hk : k < cap) (x : A2) (hl : ∀ i y, l'[i]? = some y → (i = k ∧ y = x) ∨ (i ≠ k ∧ l[i]? = some y)) : BufA T (set2 w b k x) b cap l' := by
  obtain ⟨c, hc, hs, h3⟩ := h
  refine ⟨_, heap_set_same (heap_set_same hc), by simp [hs], fun i y hy => ?_⟩
  rcases hl i y hy with ⟨rfl, rfl⟩ | ⟨hne, hy'⟩
  · simp [Array.getElem?_setIfInBounds, hs]
    refine ⟨by omega, by omega⟩
  · have := h3 i y hy'
    simp only [Array.getElem?_setIfInBounds, Array.size_setIfInBounds]
    rw [if_neg (by omega), if_neg (by omega), if_neg (by omega), if_neg (by omega)]
    exact this

end Go.Proofs.Qxb6618064aDoor
