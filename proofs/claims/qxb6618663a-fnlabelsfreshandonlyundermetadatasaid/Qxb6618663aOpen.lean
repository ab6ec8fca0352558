/- A []string and a []int64 that came in, opened. -/
import Derived.Test.Qxb6618663aBase
import Derived.ProofKit
import Derived.OpenShut
import Derived.ShutString
import Derived.ChangeOld
import Derived.Below
import Derived.Deep.Slices
set_option linter.unusedVariables false
namespace Go.Proofs.Qxb6618663a
open Go.RowKit Go.Sort Go.ChangeShapes Go.WideShapes Go.Deep

theorem cellsOf9 : Try.prog.cellsOf 9 = 1 := by kernel_rfl
theorem cellsOf2 : Try.prog.cellsOf 2 = 1 := by kernel_rfl

section
variable {H : Type} {enc : TypeId × Value → H} {w : World} {base : Nat} {spare : Nat → Bool} {held : Bool}

theorem rows_of {α : Type} [Inhabited α] {mk : α → Value} {Pr : α → Prop} {a : Addr} {len : Nat} (h0 : len ≠ 0) (each : ∀ i, i < len → ∃ z : α, w.cell? (a.add i) = some (mk z) ∧ Pr z) :
    ∃ l : List α, l.length = len ∧ RowO mk w (some a) l ∧ ∀ x ∈ l, Pr x := by
  obtain ⟨Z, hZ⟩ := choose_lt each
  obtain ⟨b, off, spot⟩ := a
  have hspot : spot = none := by
    have := (hZ 0 (by omega)).1
    simpa [Addr.add] using World.cell?_spot this
  subst hspot
  have addr : ∀ i, (⟨b, off, none⟩ : Addr).add i = ⟨b, off + i, none⟩ := by
    intro i
    unfold Addr.add
    by_cases hi : i = 0 <;> simp [hi]
  have cell : ∀ i, i < len → w.cell? ⟨b, off + i, none⟩ = some (mk (Z i)) := fun i hi => by
    rw [← addr]; exact (hZ i hi).1
  refine ⟨(List.range len).map Z, by simp, Or.inr ⟨b, off, rfl, ?_, fun i x hx => ?_⟩, fun x hx => ?_⟩
  · have := cell 0 (by omega)
    exact World.block_lt_of_cell? w ⟨b, off + 0, none⟩ this
  · have hi : i < len := by
      have := (List.getElem?_eq_some_iff.1 hx).1
      simpa using this
    have hxe : x = Z i := by
      rw [List.getElem?_map, List.getElem?_range hi] at hx
      simp at hx
      exact hx.symm
    subst hxe
    exact cell i hi
  · obtain ⟨i, hi, rfl⟩ := List.mem_map.1 hx
    exact (hZ i (List.mem_range.1 hi)).2

theorem open_strs {fuel : Nat} {a0 : Option Addr} {len cap : Nat} {x : DataW H × List MemPlace} (h : DataW.trod enc Try.prog w base spare held fuel 23 [.slice a0 len cap] = some x) :
    len ≤ maxLen ∧ (a0 = none → len = 0 ∧ cap = 0) ∧ ∃ l : List ByteArray, l.length = len ∧ RowO Value.string w a0 l ∧ ∀ x ∈ l, x.size ≤ maxLen := by
  rcases open_slice Try.underlying23 h with ⟨hcs, _⟩ | ⟨a, l, c, m, n, D, Pl, hcs, _, hl, hm, hmm, _, hx⟩
  · simp at hcs
    obtain ⟨rfl, rfl, rfl⟩ := hcs
    exact ⟨by simp [maxLen], fun _ => ⟨rfl, rfl⟩, [], rfl, Or.inl rfl, fun x hx => by cases hx⟩
  · simp at hcs
    obtain ⟨rfl, rfl, rfl⟩ := hcs
    refine ⟨Nat.le_trans hl hm, fun h => (by cases h), ?_⟩
    by_cases h0 : len = 0
    · subst h0
      exact ⟨[], rfl, Or.inl rfl, fun x hx => by cases hx⟩
    have hlm : len ≤ m := by rw [hmm]; split <;> omega
    refine rows_of h0 fun i hi => ?_
    obtain ⟨cs', h1, h2⟩ := hx i (by omega)
    rw [cellsOf9, Nat.mul_one] at h1
    obtain ⟨_, hlen, hcell⟩ := World.cells?_some h1
    obtain ⟨z, hz, _, hw⟩ := DataW.trod_string Try.underlying9 h2
    refine ⟨z, ?_, hw⟩
    have := hcell 0 (by omega)
    rw [hz] at this
    simpa [Addr.add] using this
theorem open_ints64 {fuel : Nat} {a0 : Option Addr} {len cap : Nat} {x : DataW H × List MemPlace} (h : DataW.trod enc Try.prog w base spare held fuel 47 [.slice a0 len cap] = some x) :
    len ≤ maxLen ∧ (a0 = none → len = 0 ∧ cap = 0) ∧ ∃ l : List Int, l.length = len ∧ RowO (Value.int .i64) w a0 l := by
  rcases open_slice Try.underlying47 h with ⟨hcs, _⟩ | ⟨a, l, c, m, n, D, Pl, hcs, _, hl, hm, hmm, _, hx⟩
  · simp at hcs
    obtain ⟨rfl, rfl, rfl⟩ := hcs
    exact ⟨by simp [maxLen], fun _ => ⟨rfl, rfl⟩, [], rfl, Or.inl rfl⟩
  · simp at hcs
    obtain ⟨rfl, rfl, rfl⟩ := hcs
    refine ⟨Nat.le_trans hl hm, fun h => (by cases h), ?_⟩
    by_cases h0 : len = 0
    · subst h0
      exact ⟨[], rfl, Or.inl rfl⟩
    have hlm : len ≤ m := by rw [hmm]; split <;> omega
    have hr : ∃ l : List Int, l.length = len ∧ RowO (Value.int .i64) w (some a) l ∧ ∀ x ∈ l, True := by
      refine rows_of h0 fun i hi => ?_
      obtain ⟨cs', h1, h2⟩ := hx i (by omega)
      rw [cellsOf2, Nat.mul_one] at h1
      obtain ⟨_, hlen, hcell⟩ := World.cells?_some h1
      obtain ⟨z, hz, _, hw⟩ := DataW.trod_int Try.underlying2 h2
      refine ⟨z, ?_, trivial⟩
      have := hcell 0 (by omega)
      rw [hz] at this
      simpa [Addr.add] using this
    obtain ⟨l, e1, e2, _⟩ := hr
    exact ⟨l, e1, e2⟩
end
end Go.Proofs.Qxb6618663a
