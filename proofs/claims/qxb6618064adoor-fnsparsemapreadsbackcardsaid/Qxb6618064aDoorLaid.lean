/- A []struct{int64, int64} that came in, opened; the tables that the row lists. -/
import Derived.Test.Qxb6618064aDoorMain
import Derived.ProofKit
import Derived.OpenShut
import Derived.ShutString
import Derived.ChangeOld
import Derived.Below
import Derived.Deep.Slices
import Derived.ChangeSame
import Derived.ChangeVars
import Derived.JoinedOf
import Derived.RowKit
import Derived.LaidLaws
import Derived.LaidHandle
import Derived.LaidSub
import Derived.MakeChecks
import Derived.Stop.Joined
set_option linter.unusedVariables false
namespace Go.Proofs.Qxb6618064aDoor
open Go.RowKit Go.Sort Go.ChangeShapes Go.WideShapes Go.Deep

theorem own : ownKnob Tryd.prog.godebug = none := by kernel_rfl
theorem laidOut : laidOutB Tryd.prog = true := by kernel_rfl
theorem cells33 : Tryd.prog.cellsOf 33 = 2 := by kernel_rfl
theorem cellsOf2 : Tryd.prog.cellsOf 2 = 1 := by kernel_rfl
theorem cellsOf54 : Tryd.prog.cellsOf 54 = 1 := by kernel_rfl
theorem in64_of {x : Int} (h : (Lit.int .i64 x).wf = true) : In64 x := by
  simp [Lit.wf, IntKind.min, IntKind.max, IntKind.signed, IntKind.bits] at h
  unfold In64
  omega

section
variable {H : Type} {enc : TypeId × Value → H} {w : World} {base : Nat} {spare : Nat → Bool} {held : Bool}

theorem open_two {fuel : Nat} {cs : List Value} {x : DataW H × List MemPlace} (h : DataW.trod enc Tryd.prog w base spare held fuel 33 cs = some x) :
    ∃ z : A2, cs = [.int .i64 z.1, .int .i64 z.2] ∧ In64 z.1 ∧ In64 z.2 := by
  obtain ⟨xs, m, _, _, hlen, hxl, hel⟩ := DataW.trod_struct Tryd.underlying33 h
  rw [cells33] at hlen
  match cs, hlen with
  | [c0, c1], _ =>
    have h0 : DataW.trod enc Tryd.prog w base spare held m 2 (([c0, c1].drop 0).take (Tryd.prog.cellsOf 2)) = xs[0]? := hel 0 _ rfl
    have h1 : DataW.trod enc Tryd.prog w base spare held m 2 (([c0, c1].drop 1).take (Tryd.prog.cellsOf 2)) = xs[1]? := hel 1 _ rfl
    have hx2 : xs.length = 2 := hxl
    have get : ∀ i, i < 2 → ∃ y, xs[i]? = some y := fun i hi => ⟨xs[i]'(by omega), List.getElem?_eq_getElem (by omega)⟩
    obtain ⟨y0, e0⟩ := get 0 (by omega)
    obtain ⟨y1, e1⟩ := get 1 (by omega)
    rw [e0, cellsOf2] at h0
    rw [e1, cellsOf2] at h1
    obtain ⟨a, ha, _, wa⟩ := DataW.trod_int Tryd.underlying2 h0
    obtain ⟨b, hb, _, wb⟩ := DataW.trod_int Tryd.underlying2 h1
    simp at ha hb
    exact ⟨(a, b), by rw [ha, hb], in64_of wa, in64_of wb⟩

theorem open_regs {fuel : Nat} {a0 : Option Addr} {len cap : Nat} {x : DataW H × List MemPlace} (h : DataW.trod enc Tryd.prog w base spare held fuel 29 [.slice a0 len cap] = some x) :
    len ≤ maxLen ∧ (a0 = none → len = 0 ∧ cap = 0) ∧ ∃ l : List A2, l.length = len ∧ RowO w a0 l ∧ ∀ x ∈ l, In64 x.1 ∧ In64 x.2 := by
  rcases open_slice Tryd.underlying29 h with ⟨hcs, _⟩ | ⟨a, l, c, m, n, D, Pl, hcs, _, hl, hm, hmm, _, hx⟩
  · simp at hcs
    obtain ⟨rfl, rfl, rfl⟩ := hcs
    exact ⟨by simp [maxLen], fun _ => ⟨rfl, rfl⟩, [], rfl, Or.inl rfl, fun x hx => by cases hx⟩
  · simp at hcs
    obtain ⟨rfl, rfl, rfl⟩ := hcs
    refine ⟨Nat.le_trans hl hm, fun h => (by cases h), ?_⟩
    by_cases h0 : len = 0
    · subst h0
      exact ⟨[], rfl, Or.inl rfl, fun x hx => by cases hx⟩
    have hlm : len ≤ m := by rw [hmm]; split <;> omega
    have each : ∀ i, i < len → ∃ z : A2, (∀ r, r < 2 → w.cell? ((a.add (i * 2)).add r) = [Value.int .i64 z.1, .int .i64 z.2][r]?) ∧ In64 z.1 ∧ In64 z.2 := by
      intro i hi
      obtain ⟨cs', h1, h2⟩ := hx i (by omega)
      rw [cells33] at h1
      obtain ⟨_, hlen, hcell⟩ := World.cells?_some h1
      obtain ⟨z, hz, hf⟩ := open_two h2
      refine ⟨z, fun r hr => ?_, hf⟩
      have := hcell r hr
      rw [hz] at this
      exact this
    obtain ⟨Z, hZ⟩ := choose_lt each
    obtain ⟨b, off, spot⟩ := a
    have hspot : spot = none := by
      have := (hZ 0 (by omega)).1 0 (by omega)
      simpa [Addr.add] using World.cell?_spot this
    subst hspot
    have addr : ∀ i r, ((⟨b, off, none⟩ : Addr).add (i * 2)).add r = ⟨b, off + i * 2 + r, none⟩ := by
      intro i r
      unfold Addr.add
      by_cases hi : i * 2 = 0
      · by_cases hr : r = 0 <;> simp [hi, hr]
      · by_cases hr : r = 0 <;> simp [hi, hr]
    have cell : ∀ i, i < len → ∀ r, r < 2 → w.cell? ⟨b, off + i * 2 + r, none⟩ = [Value.int .i64 (Z i).1, .int .i64 (Z i).2][r]? := fun i hi r hr => by
      rw [← addr]; exact (hZ i hi).1 r hr
    refine ⟨(List.range len).map Z, by simp, Or.inr ⟨b, off, rfl, ?_, fun i x hx => ?_⟩, fun x hx => ?_⟩
    · have := cell 0 (by omega) 0 (by omega)
      exact World.block_lt_of_cell? w ⟨b, off + 0 * 2 + 0, none⟩ this
    · have hi : i < len := by
        have := (List.getElem?_eq_some_iff.1 hx).1
        simpa using this
      have hxe : x = Z i := by
        rw [List.getElem?_map, List.getElem?_range hi] at hx
        simp at hx
        exact hx.symm
      subst hxe
      exact ⟨cell i hi 0 (by omega), cell i hi 1 (by omega)⟩
    · obtain ⟨i, hi, rfl⟩ := List.mem_map.1 hx
      exact (hZ i (List.mem_range.1 hi)).2
end

/-! the tables -/
abbrev tables : List (String × DataW Unit) := Rows.fnSparseMapSaysTheHoleOnceRow.laid
theorem gPow : Tryd.prog.globalNamed powN = some 3 := by kernel_rfl
theorem gPowType : (Tryd.prog.globals[3]?).map (·.type) = some 79 := by kernel_rfl
theorem cells79 : Tryd.prog.cellsOf 79 = 20 := by kernel_rfl
theorem tab_of {W : World} (h : laidMetH Tryd.prog tables W) : Lib.TabIs Tryd.prog W powN .u64 Lib.pow10Tab := by
  have h1 := h.filter (fun x => x.1 == powN)
  have e : (tables.filter fun x => x.1 == powN) = [(powN, Lib.tabData .u64 Lib.pow10Tab)] := by kernel_rfl
  rw [e] at h1
  have h2 : laidMet Tryd.prog [(powN, Lib.tabData .u64 Lib.pow10Tab)] W := h1
  exact Lib.tabIs_of_head gPow gPowType Tryd.underlying79 Tryd.underlying54 cellsOf54 cells79 h2
/-- a table laid into its block -/
def layTab (k : IntKind) (zs : List Int) : Obj → Obj
  | .cells _ t frozen => .cells (zs.map fun z => Value.int k z).toArray t frozen
  | o => o
def deB32 : List Int := [0, 1, 28, 2, 29, 14, 24, 3, 30, 22, 20, 15, 25, 17, 4, 8, 31, 27, 13, 23, 21, 19, 16, 7, 26, 12, 18, 6, 11, 5, 10, 9]
def deB64 : List Int := [0, 1, 56, 2, 57, 49, 28, 3, 61, 58, 42, 50, 38, 29, 17, 4, 62, 47, 59, 36, 45, 43, 51, 22, 53, 39, 33, 30, 24, 18, 12, 5, 63, 55, 48, 27, 60, 41, 37, 16, 46, 35, 44, 21, 52, 32, 23, 11, 54, 26, 40, 15, 34, 20, 31, 10, 25, 14, 19, 9, 13, 8, 7, 6]
end Go.Proofs.Qxb6618064aDoor
