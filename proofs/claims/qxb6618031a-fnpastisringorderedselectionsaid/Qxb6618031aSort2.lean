/- slices.SortFunc at a row of ring.ID that the call has made. -/
import Derived.Test.Qxb6618031aSort
set_option linter.unusedVariables false
namespace Go.Proofs.Qxb6618031a
open Go.RowKit Go.Sort Go.Shelf Go.Lib

/-- Block g is a row of identifiers, none frozen, that begins with the list l. -/
def BufL (w : World) (g : Nat) (l : List W3) : Prop := ∃ c : Array Value, w.heap[g]? = some (.cells c 30 (0, 0)) ∧ l.length * 3 ≤ c.size ∧
  ∀ i, i < l.length → c[i * 3]? = some (.int .u64 (l[i]!).1) ∧ c[i * 3 + 1]? = some (.int .u64 (l[i]!).2.1) ∧ c[i * 3 + 2]? = some (.int .u64 (l[i]!).2.2)
theorem BufL.lt {w : World} {g : Nat} {l : List W3} (h : BufL w g l) : g < w.heap.size := by
  obtain ⟨c, hc, _⟩ := h
  exact (Array.getElem?_eq_some_iff.1 hc).1
theorem BufL.cell {w : World} {g : Nat} {l : List W3} (h : BufL w g l) {i : Nat} (hi : i < l.length) :
    w.cell? ⟨g, i * 3, none⟩ = some (.int .u64 (l[i]!).1) ∧ w.cell? ⟨g, i * 3 + 1, none⟩ = some (.int .u64 (l[i]!).2.1) ∧ w.cell? ⟨g, i * 3 + 2, none⟩ = some (.int .u64 (l[i]!).2.2) := by
  obtain ⟨c, hc, _, h3⟩ := h
  simp only [World.cell?, hc]
  exact h3 i hi
theorem BufL.frozen {w : World} {g : Nat} {l : List W3} (h : BufL w g l) (o : Nat) : w.frozen? ⟨g, o, none⟩ = false := by
  obtain ⟨c, hc, _⟩ := h
  simp [World.frozen?, hc]
theorem BufL.ext {w w' : World} {g : Nat} {l : List W3} (h : BufL w g l) (hE : Ext w w') : BufL w' g l := by
  obtain ⟨c, hc, r⟩ := h
  exact ⟨c, hE.keeps hc, r⟩

theorem enc3_get (x : W3) : (enc3 x)[0]! = .int .u64 x.1 ∧ (enc3 x)[1]! = .int .u64 x.2.1 ∧ (enc3 x)[2]! = .int .u64 x.2.2 := ⟨rfl, rfl, rfl⟩

theorem BufL.holds {w : World} {g : Nat} {l : List W3} (h : BufL w g l) : HoldsK enc3 3 w g 0 l.toArray := by
  intro j hj
  rw [size_flatK] at hj
  have hj' : j < l.length * 3 := by simpa using hj
  rw [get_flatK _ _ _ _ hj]
  refine ⟨?_, h.frozen _⟩
  obtain ⟨c0, c1, c2⟩ := h.cell (i := j / 3) (by omega)
  have e : (l.toArray[j / 3]! : W3) = l[j / 3]! := by simp
  rw [e, Nat.zero_add]
  obtain ⟨g0, g1, g2⟩ := enc3_get l[j / 3]!
  have h3 : j % 3 = 0 ∨ j % 3 = 1 ∨ j % 3 = 2 := by omega
  rcases h3 with e | e | e
  · rw [e, id, g0]
    have : j / 3 * 3 = j := by omega
    rw [this] at c0; exact c0
  · rw [e, id, g1]
    have : j / 3 * 3 + 1 = j := by omega
    rw [this] at c1; exact c1
  · rw [e, id, g2]
    have : j / 3 * 3 + 2 = j := by omega
    rw [this] at c2; exact c2

/-- the list, sorted round the ring from x -/
def sortL (x : W3) (l : List W3) : List W3 := l.mergeSort fun a b => !(ltOf (cfF x)) b a

theorem BufL.sorted {w : World} {g : Nat} {l m : List W3} (h : BufL w g l) (hlen : m.length = l.length) (n : Nat) (os : Array Obj) : BufL (sortWorldK enc3 3 w g 0 n m.toArray os) g m ∧ w.grownBy (sortWorldK enc3 3 w g 0 n m.toArray os) (some g) := by
  have hlt := h.lt
  have hH := h.holds
  obtain ⟨c, hc, hsz, _⟩ := h
  have hsize : (putRowK enc3 3 (Sort.ahead w n) g 0 m.toArray).heap.size = w.heap.size := by simp [putRowK, putRow, mapBlock, Sort.ahead]
  have hblk : (sortWorldK enc3 3 w g 0 n m.toArray os).heap[g]? = some (.cells (putCells id 0 (flatK enc3 3 m.toArray) c) 30 (0, 0)) := by
    unfold sortWorldK
    rw [heap_grow_old _ _ (by rw [hsize]; exact hlt)]
    show (Array.modify w.heap g _)[g]? = _
    rw [Array.getElem?_modify, if_pos rfl, hc]
    rfl
  have hH2 : HoldsK enc3 3 (sortWorldK enc3 3 w g 0 n m.toArray os) g 0 m.toArray := by
    unfold sortWorldK
    exact holdsK_grow _ _ _ _ _ _ _ (by rw [hsize]; exact hlt) (holdsK_putRowK enc3 3 _ g 0 l.toArray m.toArray (holdsK_ahead _ _ _ _ _ _ _ hH) (by simpa using hlen))
  refine ⟨⟨_, hblk, ?_, fun i hi => ?_⟩, ⟨rfl, rfl, rfl, ?_, fun k hk hr => ?_⟩⟩
  · simp [putCells]; omega
  · have cell : ∀ r, r < 3 → (putCells id 0 (flatK enc3 3 m.toArray) c)[i * 3 + r]? = some (enc3 m[i]!)[r]! := fun r hr => by
      have := (HoldsK.cell hH2 (i := i) (c := r) (by simpa using hi) hr).1
      simp only [World.cell?, hblk, Nat.zero_add] at this
      simpa using this
    obtain ⟨g0, g1, g2⟩ := enc3_get m[i]!
    exact ⟨(cell 0 (by omega)).trans (by rw [g0]), (cell 1 (by omega)).trans (by rw [g1]), (cell 2 (by omega)).trans (by rw [g2])⟩
  · unfold sortWorldK
    rw [size_grow, hsize]
    omega
  · unfold sortWorldK
    rw [heap_grow_old _ _ (by rw [hsize]; exact hk)]
    show (Array.modify w.heap g _)[k]? = _
    rw [Array.getElem?_modify, if_neg (fun e => hr (by rw [e]))]

theorem sort_any (x : W3) (pb bp g cap : Nat) (l : List W3) (w : World) (hB : BufL w g l) (hlen : l.length ≤ 1000000) (hp : w.cell? ⟨pb, 0, none⟩ = some (.pointer (some ⟨bp, 0, none⟩))) (hpb : pb < w.heap.size) (hbp : bp < w.heap.size) (n1 : pb ≠ g) (n2 : bp ≠ g)
    (hx : w.cell? ⟨bp, 0, none⟩ = some (.int .u64 x.1) ∧ w.cell? ⟨bp, 1, none⟩ = some (.int .u64 x.2.1) ∧ w.cell? ⟨bp, 2, none⟩ = some (.int .u64 x.2.2)) :
    Calls Try.prog 27 #[.slice (some ⟨g, 0, none⟩) l.length cap, .func (.func 28) #[] #[.pointer (some ⟨pb, 0, none⟩)]] w
      fun e w' => e = .returned (.tuple #[]) ∧ BufL w' g (sortL x l) ∧ w.grownBy w' (some g) := by
  have eg : ∀ args w, (callFunc 28 args).run Try.prog w = .ok (.enter 28 args) w := enters_of Try.func28 (by kernel_rfl) rfl
  have hcon := AnyQ.slices_SortFunc_total Try.sortID 3 Try.isAgg30 Try.sizeOf30 enc3 (fun _ => rfl) (fun x v hv => by simp [enc3] at hv; rcases hv with rfl | rfl | rfl <;> rfl) (cfF x) (swo_cf x) 28 #[.pointer (some ⟨pb, 0, none⟩)] g 0 cap l.toArray w eg
    (cmpLays28 x pb bp g 0 l.toArray.size w hp hpb hbp n1 n2 hx) hB.holds hB.lt (by simp; omega)
    (fun a b h1 h2 => by
      rw [ltOf_cf_false] at h1 h2
      rcases Ring.before_tri x a b with h | h | h
      · exact absurd h h1
      · exact h
      · exact absurd h h2)
  change Calls Try.prog 27 _ _ _ at hcon
  have hs : l.toArray.size = l.length := by simp
  rw [hs] at hcon
  refine hcon.mono ?_
  rintro e w' ⟨rfl, n, os, rfl⟩
  refine ⟨rfl, ?_⟩
  exact hB.sorted (m := sortL x l) (by simp [sortL]) n os
end Go.Proofs.Qxb6618031a
