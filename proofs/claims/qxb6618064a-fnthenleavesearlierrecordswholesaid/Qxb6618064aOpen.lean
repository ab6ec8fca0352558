/- A []struct{string, string} that came in, opened. -/
import Derived.Test.Qxb6618064aRow
import Derived.ProofKit
import Derived.OpenShut
import Derived.ShutString
import Derived.ChangeOld
import Derived.Below
import Derived.Deep.Slices
set_option linter.unusedVariables false
namespace Go.Proofs.Qxb6618064a
open Go.RowKit Go.Sort Go.ChangeShapes Go.WideShapes Go.Deep

theorem cells51 : Try.prog.cellsOf 51 = 2 := by kernel_rfl
theorem cellsOf9 : Try.prog.cellsOf 9 = 1 := by kernel_rfl

section
variable {H : Type} {enc : TypeId × Value → H} {w : World} {base : Nat} {spare : Nat → Bool} {held : Bool}

theorem open_two {fuel : Nat} {cs : List Value} {x : DataW H × List MemPlace} (h : DataW.trod enc Try.prog w base spare held fuel 51 cs = some x) :
    ∃ z : A2, cs = [.string z.1, .string z.2] ∧ z.1.size ≤ maxLen ∧ z.2.size ≤ maxLen := by
  obtain ⟨xs, m, _, _, hlen, hxl, hel⟩ := DataW.trod_struct Try.underlying51 h
  rw [cells51] at hlen
  match cs, hlen with
  | [c0, c1], _ =>
    have h0 : DataW.trod enc Try.prog w base spare held m 9 (([c0, c1].drop 0).take (Try.prog.cellsOf 9)) = xs[0]? := hel 0 _ rfl
    have h1 : DataW.trod enc Try.prog w base spare held m 9 (([c0, c1].drop 1).take (Try.prog.cellsOf 9)) = xs[1]? := hel 1 _ rfl
    have hx2 : xs.length = 2 := hxl
    have get : ∀ i, i < 2 → ∃ y, xs[i]? = some y := fun i hi => ⟨xs[i]'(by omega), List.getElem?_eq_getElem (by omega)⟩
    obtain ⟨y0, e0⟩ := get 0 (by omega)
    obtain ⟨y1, e1⟩ := get 1 (by omega)
    rw [e0, cellsOf9] at h0
    rw [e1, cellsOf9] at h1
    obtain ⟨a, ha, _, wa⟩ := DataW.trod_string Try.underlying9 h0
    obtain ⟨b, hb, _, wb⟩ := DataW.trod_string Try.underlying9 h1
    simp at ha hb
    exact ⟨(a, b), by rw [ha, hb], wa, wb⟩

theorem open_rows2 {fuel : Nat} {a0 : Option Addr} {len cap : Nat} {x : DataW H × List MemPlace} (h : DataW.trod enc Try.prog w base spare held fuel 22 [.slice a0 len cap] = some x) :
    len ≤ maxLen ∧ (a0 = none → len = 0 ∧ cap = 0) ∧ ∃ l : List A2, l.length = len ∧ RowO w a0 l ∧ ∀ x ∈ l, x.1.size ≤ maxLen ∧ x.2.size ≤ maxLen := by
  rcases open_slice Try.underlying22 h with ⟨hcs, _⟩ | ⟨a, l, c, m, n, D, Pl, hcs, _, hl, hm, hmm, _, hx⟩
  · simp at hcs
    obtain ⟨rfl, rfl, rfl⟩ := hcs
    exact ⟨by simp [maxLen], fun _ => ⟨rfl, rfl⟩, [], rfl, Or.inl rfl, fun x hx => by cases hx⟩
  · simp at hcs
    obtain ⟨rfl, rfl, rfl⟩ := hcs
    refine ⟨Nat.le_trans hl hm, fun h => (by cases h), ?_⟩
    by_cases h0 : len = 0
    · subst h0
      exact ⟨[], rfl, Or.inl rfl, fun x hx => by cases hx⟩
    have hlm : len ≤ m := by rw [hmm]; split <;> omega
    have each : ∀ i, i < len → ∃ z : A2, (∀ r, r < 2 → w.cell? ((a.add (i * 2)).add r) = [Value.string z.1, .string z.2][r]?) ∧ z.1.size ≤ maxLen ∧ z.2.size ≤ maxLen := by
      intro i hi
      obtain ⟨cs', h1, h2⟩ := hx i (by omega)
      rw [cells51] at h1
      obtain ⟨_, hlen, hcell⟩ := World.cells?_some h1
      obtain ⟨z, hz, hf⟩ := open_two h2
      refine ⟨z, fun r hr => ?_, hf⟩
      have := hcell r hr
      rw [hz] at this
      exact this
    obtain ⟨Z, hZ⟩ := choose_lt each
    obtain ⟨b, off, spot⟩ := a
    have hspot : spot = none := by
      have := (hZ 0 (by omega)).1 0 (by omega)
      simpa [Addr.add] using World.cell?_spot this
    subst hspot
    have addr : ∀ i r, ((⟨b, off, none⟩ : Addr).add (i * 2)).add r = ⟨b, off + i * 2 + r, none⟩ := by
      intro i r
      unfold Addr.add
      by_cases hi : i * 2 = 0
      · by_cases hr : r = 0 <;> simp [hi, hr]
      · by_cases hr : r = 0 <;> simp [hi, hr]
    have cell : ∀ i, i < len → ∀ r, r < 2 → w.cell? ⟨b, off + i * 2 + r, none⟩ = [Value.string (Z i).1, .string (Z i).2][r]? := fun i hi r hr => by
      rw [← addr]; exact (hZ i hi).1 r hr
    refine ⟨(List.range len).map Z, by simp, Or.inr ⟨b, off, rfl, ?_, fun i x hx => ?_⟩, fun x hx => ?_⟩
    · have := cell 0 (by omega) 0 (by omega)
      exact World.block_lt_of_cell? w ⟨b, off + 0 * 2 + 0, none⟩ this
    · have hi : i < len := by
        have := (List.getElem?_eq_some_iff.1 hx).1
        simpa using this
      have hxe : x = Z i := by
        rw [List.getElem?_map, List.getElem?_range hi] at hx
        simp at hx
        exact hx.symm
      subst hxe
      exact ⟨cell i hi 0 (by omega), cell i hi 1 (by omega)⟩
    · obtain ⟨i, hi, rfl⟩ := List.mem_map.1 hx
      exact (hZ i (List.mem_range.1 hi)).2
end
end Go.Proofs.Qxb6618064a
