/- A [][3]uint64 that came in, opened. -/
import Derived.Test.Qxb6618031aLeaf
import Derived.ProofKit
import Derived.OpenShut
import Derived.ShutString
import Derived.ChangeOld
import Derived.Below
import Derived.Deep.Slices
set_option linter.unusedVariables false
namespace Go.Proofs.Qxb6618031a
open Go.RowKit Go.Sort Go.ChangeShapes Go.WideShapes Go.Deep

theorem cells28 : Try.prog.cellsOf 28 = 3 := by kernel_rfl
theorem cellsOf27 : Try.prog.cellsOf 27 = 1 := by kernel_rfl

/-- each of the three words fits a uint64 -/
def Fits (x : W3) : Prop := (Lit.int .u64 x.1).wf = true ∧ (Lit.int .u64 x.2.1).wf = true ∧ (Lit.int .u64 x.2.2).wf = true

section
variable {H : Type} {enc : TypeId × Value → H} {w : World} {base : Nat} {spare : Nat → Bool} {held : Bool}

theorem open_three {fuel : Nat} {cs : List Value} {x : DataW H × List MemPlace} (h : DataW.trod enc Try.prog w base spare held fuel 28 cs = some x) :
    ∃ z : W3, cs = [.int .u64 z.1, .int .u64 z.2.1, .int .u64 z.2.2] ∧ Fits z := by
  obtain ⟨xs, m, _, _, hlen, hxl, hel⟩ := DataW.trod_array Try.underlying28 h
  rw [cells28] at hlen
  match cs, hlen with
  | [c0, c1, c2], _ =>
    rw [cellsOf27] at hel
    have get : ∀ i, i < 3 → ∃ y, xs[i]? = some y := fun i hi => ⟨xs[i]'(by omega), List.getElem?_eq_getElem (by omega)⟩
    obtain ⟨y0, e0⟩ := get 0 (by omega)
    obtain ⟨y1, e1⟩ := get 1 (by omega)
    obtain ⟨y2, e2⟩ := get 2 (by omega)
    have h0 := hel 0 (by omega)
    have h1 := hel 1 (by omega)
    have h2 := hel 2 (by omega)
    rw [e0] at h0
    rw [e1] at h1
    rw [e2] at h2
    obtain ⟨a, ha, _, wa⟩ := DataW.trod_int Try.underlying27 h0
    obtain ⟨b, hb, _, wb⟩ := DataW.trod_int Try.underlying27 h1
    obtain ⟨c, hc, _, wc⟩ := DataW.trod_int Try.underlying27 h2
    simp at ha hb hc
    exact ⟨(a, b, c), by rw [ha, hb, hc], wa, wb, wc⟩

theorem open_rows3 {fuel : Nat} {a0 : Option Addr} {len cap : Nat} {x : DataW H × List MemPlace} (h : DataW.trod enc Try.prog w base spare held fuel 22 [.slice a0 len cap] = some x) :
    len ≤ maxLen ∧ (len = 0 ∨ ∃ b off Z, a0 = some ⟨b, off, none⟩ ∧ Row3 w b off len Z ∧ ∀ i, i < len → Fits (Z i)) := by
  rcases open_slice Try.underlying22 h with ⟨hcs, _⟩ | ⟨a, l, c, m, n, D, Pl, hcs, _, hl, hm, hmm, _, hx⟩
  · simp at hcs
    obtain ⟨rfl, rfl, rfl⟩ := hcs
    exact ⟨by simp [maxLen], Or.inl rfl⟩
  · simp at hcs
    obtain ⟨rfl, rfl, rfl⟩ := hcs
    refine ⟨Nat.le_trans hl hm, ?_⟩
    by_cases h0 : len = 0
    · exact Or.inl h0
    right
    have hlm : len ≤ m := by rw [hmm]; split <;> omega
    have each : ∀ i, i < len → ∃ z : W3, (∀ r, r < 3 → w.cell? ((a.add (i * 3)).add r) = [Value.int .u64 z.1, .int .u64 z.2.1, .int .u64 z.2.2][r]?) ∧ Fits z := by
      intro i hi
      obtain ⟨cs', h1, h2⟩ := hx i (by omega)
      rw [cells28] at h1
      obtain ⟨_, hlen, hcell⟩ := World.cells?_some h1
      obtain ⟨z, hz, hf⟩ := open_three h2
      refine ⟨z, fun r hr => ?_, hf⟩
      have := hcell r hr
      rw [hz] at this
      exact this
    obtain ⟨Z, hZ⟩ := choose_lt each
    obtain ⟨b, off, spot⟩ := a
    have hspot : spot = none := by
      have := (hZ 0 (by omega)).1 0 (by omega)
      simpa [Addr.add] using World.cell?_spot this
    subst hspot
    have addr : ∀ i r, ((⟨b, off, none⟩ : Addr).add (i * 3)).add r = ⟨b, off + i * 3 + r, none⟩ := by
      intro i r
      unfold Addr.add
      by_cases hi : i * 3 = 0
      · by_cases hr : r = 0 <;> simp [hi, hr]
      · by_cases hr : r = 0 <;> simp [hi, hr]
    have cell : ∀ i, i < len → ∀ r, r < 3 → w.cell? ⟨b, off + i * 3 + r, none⟩ = [Value.int .u64 (Z i).1, .int .u64 (Z i).2.1, .int .u64 (Z i).2.2][r]? := fun i hi r hr => by
      rw [← addr]; exact (hZ i hi).1 r hr
    refine ⟨b, off, Z, rfl, ⟨?_, fun i hi => ⟨?_, ?_, ?_⟩⟩, fun i hi => (hZ i hi).2⟩
    · have := cell 0 (by omega) 0 (by omega)
      exact World.block_lt_of_cell? w ⟨b, off + 0 * 3 + 0, none⟩ this
    · exact cell i hi 0 (by omega)
    · exact cell i hi 1 (by omega)
    · exact cell i hi 2 (by omega)
end
end Go.Proofs.Qxb6618031a
