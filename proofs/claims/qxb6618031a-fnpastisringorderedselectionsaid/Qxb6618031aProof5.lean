/- The statement Rows.FnPastIsRingOrderedSelectionSaid. The frame is the guide's own (proof-skeleton), turned to two arrays and two slices of [3]uint64. -/
import Derived.Test.Qxb6618031aMain5
import Derived.Test.Qxb6618031aOpen
set_option linter.unusedVariables false
namespace Go.Proofs.Qxb6618031a.fnPastIsRingOrderedSelection
open Go.ChangeShapes Go.WideShapes Go.ChangeAt Go.RowKit

theorem own : ownKnob Try.prog.godebug = none := by kernel_rfl
theorem laidOut : laidOutB Try.prog = true := by kernel_rfl

theorem w_of_wf {z : Int} (h : (Lit.int .u64 z).wf = true) : W z := by
  have := bounds_u64 h
  unfold W
  omega
theorem fit_of {x : W3} (h : Fits x) : Fit x := ⟨w_of_wf h.1, w_of_wf h.2.1, w_of_wf h.2.2⟩
theorem row_of {w : World} {a0 : Option Addr} {n : Nat} (h : n = 0 ∨ ∃ b off Z, a0 = some ⟨b, off, none⟩ ∧ Row3 w b off n Z ∧ ∀ i, i < n → Fits (Z i)) : ∃ Z : Nat → W3, RowO w a0 n Z ∧ ∀ i, i < n → Fit (Z i) := by
  rcases h with h | ⟨b, off, Z, e, hR, hf⟩
  · exact ⟨fun _ => (0, 0, 0), Or.inl h, fun i hi => by omega⟩
  · exact ⟨Z, Or.inr ⟨b, off, e, hR⟩, fun i hi => fit_of (hf i hi)⟩

theorem walk (x y : W3) (so ao : Option Addr) (m mc n cap : Nat) (keep : Int) (w : World) (hx : Fits x) (hy : Fits y) (hml : m ≤ maxLen) (hnl : n ≤ maxLen)
    (hs : m = 0 ∨ ∃ b off Z, so = some ⟨b, off, none⟩ ∧ Row3 w b off m Z ∧ ∀ i, i < m → Fits (Z i)) (hr : n = 0 ∨ ∃ b off Z, ao = some ⟨b, off, none⟩ ∧ Row3 w b off n Z ∧ ∀ i, i < n → Fits (Z i)) :
    Calls Try.prog 5 #[.agg #[.int .u64 x.1, .int .u64 x.2.1, .int .u64 x.2.2], .agg #[.int .u64 y.1, .int .u64 y.2.1, .int .u64 y.2.2], .slice so m mc, .int .i64 keep, .slice ao n cap] w fun e w' => e = .returned (.bool true) ∧ Below w.heap.size w w' := by
  unfold maxLen at hml hnl
  by_cases hc : 4096 < m ∨ 4096 < n
  · refine (fn5_early x y so ao m mc n cap keep w (by omega) (by omega) hc).mono ?_
    rintro e w' ⟨rfl, hE⟩
    exact ⟨rfl, hE.below⟩
  · obtain ⟨fs, hS, _⟩ := row_of hs
    obtain ⟨Z, hR, hZ⟩ := row_of hr
    exact fn5_main x y so ao m mc n cap fs Z keep w (fit_of hx) (fit_of hy) (by omega) (by omega) hS hR hZ

theorem open_arr3 {H : Type} {enc : TypeId × Value → H} {w : World} {base base' : Nat} {spare : Nat → Bool} {held : Bool} {r : Reach} {v : Value} {d : DataW H} {p : List MemPlace} (hv : Value.okWide Try.prog w r base' 28 v) (h : DataW.Trod enc Try.prog w base spare held 28 v d p) :
    ∃ z : W3, v = .agg #[.int .u64 z.1, .int .u64 z.2.1, .int .u64 z.2.2] ∧ Fits z := by
  simp only [Value.okWide, Try.underlying28] at hv
  obtain ⟨cs, rfl, _, _⟩ := hv
  obtain ⟨fuel, hf⟩ := h
  obtain ⟨z, hz, hfz⟩ := open_three hf
  refine ⟨z, ?_, hfz⟩
  have hz' : cs.toList = [.int .u64 z.1, .int .u64 z.2.1, .int .u64 z.2.2] := hz
  have : cs = #[.int .u64 z.1, .int .u64 z.2.1, .int .u64 z.2.2] := by rw [← Array.toArray_toList (xs := cs), hz']
  rw [this]

set_option maxRecDepth 100000 in
theorem lifted (os : Os) (started : os.Started) (H : Type) (enc : TypeId × Value → H) :
    ReturnsInHanded {} Try.checked os 5 .any (Rows.fnPastIsRingOrderedSelectionSpec.pre6 enc Try.prog Try.f5 Rows.fnPastIsRingOrderedSelectionRow.domain false) (Rows.fnPastIsRingOrderedSelectionSpec.post enc Try.prog Try.f5 false true false false) := by
  refine returnsInHanded_of_change (C := Try.checked) own started (by kernel_rfl) Try.func5
    (ChangeSpec.witness6 (enc := enc) (C := Try.checked) false ⟨#[], #[.agg #[.int .u64 0, .int .u64 0, .int .u64 0], .agg #[.int .u64 0, .int .u64 0, .int .u64 0], .slice none 0 0, .int .i64 0, .slice none 0 0], []⟩ 8 (by kernel_rfl) (by kernel_rfl) (by kernel_rfl) (by kernel_rfl)) ?_
  intro W base args ds gs before hval0 hW hcnd _
  have hval : ∀ (j : Nat) t v, Try.f5.params[j]? = some t → args[j]? = some v → Value.okWide Try.prog W .any base t v := hval0
  have hW' := hW
  obtain ⟨p, q, hA0, hV, rfl, hfz, hnd⟩ := hW
  have hA : DataW.TrodAll enc Try.prog W 0 (fun _ => true) true Try.f5.params.toList args.toList ds p := hA0
  rw [Try.params5] at hA hval
  obtain ⟨v0, vs0, d0, ds0, p0, q0, hargs, rfl, rfl, h0, r0⟩ := trodAll_cons hA
  obtain ⟨v1, vs1, d1, ds1, p1, q1, rfl, rfl, rfl, h1, r1⟩ := trodAll_cons r0
  obtain ⟨v2, vs2, d2, ds2, p2, q2, rfl, rfl, rfl, h2, r2⟩ := trodAll_cons r1
  obtain ⟨v3, vs3, d3, ds3, p3, q3, rfl, rfl, rfl, h3, r3⟩ := trodAll_cons r2
  obtain ⟨v4, vs4, d4, ds4, p4, q4, rfl, rfl, rfl, h4, r4⟩ := trodAll_cons r3
  obtain ⟨rfl, rfl, rfl⟩ := trodAll_nil r4
  obtain rfl : args = #[v0, v1, v2, v3, v4] := by cases args; simp_all
  obtain ⟨rfl, rfl⟩ := trodVars_none hV
  have k0 := h0
  have lt0 : ∀ x ∈ p0, x.block < W.heap.size := by obtain ⟨m, hm⟩ := k0; exact DataW.trod_lt m _ _ _ hm
  have k1 := h1
  have lt1 : ∀ x ∈ p1, x.block < W.heap.size := by obtain ⟨m, hm⟩ := k1; exact DataW.trod_lt m _ _ _ hm
  have k2 := h2
  have lt2 : ∀ x ∈ p2, x.block < W.heap.size := by obtain ⟨m, hm⟩ := k2; exact DataW.trod_lt m _ _ _ hm
  have k4 := h4
  have lt4 : ∀ x ∈ p4, x.block < W.heap.size := by obtain ⟨m, hm⟩ := k4; exact DataW.trod_lt m _ _ _ hm
  obtain ⟨x, rfl, fx⟩ := open_arr3 (hval 0 28 v0 rfl rfl) h0
  obtain ⟨y, rfl, fy⟩ := open_arr3 (hval 1 28 v1 rfl rfl) h1
  obtain ⟨a2, len2, cap2, rfl⟩ := okWide_slice Try.underlying22 (hval 2 22 v2 rfl rfl)
  obtain ⟨a4, len4, cap4, rfl⟩ := okWide_slice Try.underlying22 (hval 4 22 v4 rfl rfl)
  have w2 : len2 ≤ maxLen ∧ (len2 = 0 ∨ ∃ b off Z, a2 = some ⟨b, off, none⟩ ∧ Row3 W b off len2 Z ∧ ∀ i, i < len2 → Fits (Z i)) := by
    obtain ⟨fuel, hf⟩ := h2
    exact open_rows3 hf
  have w4 : len4 ≤ maxLen ∧ (len4 = 0 ∨ ∃ b off Z, a4 = some ⟨b, off, none⟩ ∧ Row3 W b off len4 Z ∧ ∀ i, i < len4 → Fits (Z i)) := by
    obtain ⟨fuel, hf⟩ := h4
    exact open_rows3 hf
  obtain ⟨a3, rfl, rfl, rfl, w3⟩ := open_int Try.underlying3 (hval 3 3 v3 rfl rfl) h3
  clear hA0 hval0
  refine (walk x y a2 a4 len2 cap2 len4 cap4 a3 W fx fy w2.1 w4.1 w2.2 w4.2).mono fun e W' ⟨he, bel⟩ => ?_
  subst he
  exact ⟨_, rfl, _, _, _, [], _, [], hW', trodAll_mk1 (shut_bool Try.underlying4 _), (trodAll_cons_mk (Below.trod laidOut (by kernel_rfl) (of_decide_eq_true (by kernel_rfl)) k0 bel lt0) (trodAll_cons_mk (Below.trod laidOut (by kernel_rfl) (of_decide_eq_true (by kernel_rfl)) k1 bel lt1) (trodAll_cons_mk (Below.trod laidOut (by kernel_rfl) (of_decide_eq_true (by kernel_rfl)) k2 bel lt2) (trodAll_cons_mk (shut_int Try.underlying3 w3) (trodAll_cons_mk (Below.trod laidOut (by kernel_rfl) (of_decide_eq_true (by kernel_rfl)) k4 bel lt4) trodAll_mk0))))), rfl, bel.frame _, fun h => by cases h⟩

theorem over : Rows.fnPastIsRingOrderedSelectionRow.holds Try.pinned (OpenSpec.ofChange Rows.fnPastIsRingOrderedSelectionSpec) :=
  OpenClaim.holds_of_wide 5 Try.f5 rfl rfl rfl rfl rfl rfl rfl ⟨rfl, rfl, rfl, rfl, rfl⟩ rfl rfl rfl rfl rfl (by kernel_rfl) Try.func5 (by kernel_rfl)
    (of_decide_eq_true (by kernel_rfl)) (by unfold Func.isWrapper; first | (rw [if_pos (by decide +kernel)]; kernel_rfl) | (rw [if_neg (by decide +kernel)]; exact ⟨rfl, rfl⟩))
    (fun os started H enc _ => lifted os started H enc)

theorem proved : Rows.FnPastIsRingOrderedSelectionSaid := over
#print axioms proved
end Go.Proofs.Qxb6618031a.fnPastIsRingOrderedSelection
