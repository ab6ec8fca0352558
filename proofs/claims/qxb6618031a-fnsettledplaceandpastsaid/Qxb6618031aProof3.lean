/- The statement Rows.FnSettledPlaceAndPastSaid. The frame is the guide's own (proof-skeleton), turned to a slice of [3]uint64. -/
import Derived.Test.Qxb6618031aMain3
import Derived.Test.Qxb6618031aOpen
set_option linter.unusedVariables false
namespace Go.Proofs.Qxb6618031a.fnSettledPlaceAndPast
open Go.ChangeShapes Go.WideShapes Go.ChangeAt Go.RowKit

theorem own : ownKnob Try.prog.godebug = none := by kernel_rfl
theorem laidOut : laidOutB Try.prog = true := by kernel_rfl

theorem walk (a0 : Option Addr) (n cap : Nat) (a1 a2 : Int) (w : World) (hlen : n ≤ maxLen) (h : n = 0 ∨ ∃ b off Z, a0 = some ⟨b, off, none⟩ ∧ Row3 w b off n Z ∧ ∀ i, i < n → Fits (Z i)) (w1 : (Lit.int .i64 a1).wf = true) (w2 : (Lit.int .i64 a2).wf = true) :
    Calls Try.prog 3 #[.slice a0 n cap, .int .i64 a1, .int .i64 a2] w fun e w' => e = .returned (.bool true) ∧ Below w.heap.size w w' := by
  have b2 := bounds_i64 w2
  unfold maxLen at hlen
  by_cases hc : 4096 < n ∨ n < 1 ∨ a1 < 0 ∨ (n : Int) ≤ a1 ∨ a2 < 0
  · refine (fn3_early a0 n cap a1 a2 w (by omega) hc).mono ?_
    rintro e w' ⟨rfl, hw⟩
    rw [hw]
    exact ⟨rfl, Below.refl _ _⟩
  · rcases h with h0 | ⟨b, off, Z, rfl, hR, _⟩
    · omega
    obtain ⟨i, rfl⟩ := Int.eq_ofNat_of_zero_le (show 0 ≤ a1 by omega)
    obtain ⟨keep, rfl⟩ := Int.eq_ofNat_of_zero_le (show 0 ≤ a2 by omega)
    exact fn3_main b off n cap Z i keep (min keep n) w hR (by omega) (by omega) (by omega) (by omega) rfl

set_option maxRecDepth 100000 in
theorem lifted (os : Os) (started : os.Started) (H : Type) (enc : TypeId × Value → H) :
    ReturnsInHanded {} Try.checked os 3 .any (Rows.fnSettledPlaceAndPastSpec.pre6 enc Try.prog Try.f3 Rows.fnSettledPlaceAndPastRow.domain false) (Rows.fnSettledPlaceAndPastSpec.post enc Try.prog Try.f3 false true false false) := by
  refine returnsInHanded_of_change (C := Try.checked) own started (by kernel_rfl) Try.func3
    (ChangeSpec.witness6 (enc := enc) (C := Try.checked) false ⟨#[], #[.slice none 0 0, .int .i64 0, .int .i64 0], []⟩ 8 (by kernel_rfl) (by kernel_rfl) (by kernel_rfl) (by kernel_rfl)) ?_
  intro W base args ds gs before hval0 hW hcnd _
  have hval : ∀ (j : Nat) t v, Try.f3.params[j]? = some t → args[j]? = some v → Value.okWide Try.prog W .any base t v := hval0
  have hW' := hW
  obtain ⟨p, q, hA0, hV, rfl, hfz, hnd⟩ := hW
  have hA : DataW.TrodAll enc Try.prog W 0 (fun _ => true) true Try.f3.params.toList args.toList ds p := hA0
  rw [Try.params3] at hA hval
  obtain ⟨v0, vs0, d0, ds0, p0, q0, hargs, rfl, rfl, h0, r0⟩ := trodAll_cons hA
  obtain ⟨v1, vs1, d1, ds1, p1, q1, rfl, rfl, rfl, h1, r1⟩ := trodAll_cons r0
  obtain ⟨v2, vs2, d2, ds2, p2, q2, rfl, rfl, rfl, h2, r2⟩ := trodAll_cons r1
  obtain ⟨rfl, rfl, rfl⟩ := trodAll_nil r2
  obtain rfl : args = #[v0, v1, v2] := by cases args; simp_all
  obtain ⟨rfl, rfl⟩ := trodVars_none hV
  obtain ⟨a0, len0, cap0, rfl⟩ := okWide_slice Try.underlying22 (hval 0 22 v0 rfl rfl)
  have k0 := h0
  have lt0 : ∀ x ∈ p0, x.block < W.heap.size := by obtain ⟨m, hm⟩ := k0; exact DataW.trod_lt m _ _ _ hm
  have w0 : len0 ≤ maxLen ∧ (len0 = 0 ∨ ∃ b off Z, a0 = some ⟨b, off, none⟩ ∧ Row3 W b off len0 Z ∧ ∀ i, i < len0 → Fits (Z i)) := by
    obtain ⟨fuel, hf⟩ := h0
    exact open_rows3 hf
  obtain ⟨a1, rfl, rfl, rfl, w1⟩ := open_int Try.underlying3 (hval 1 3 v1 rfl rfl) h1
  obtain ⟨a2, rfl, rfl, rfl, w2⟩ := open_int Try.underlying3 (hval 2 3 v2 rfl rfl) h2
  clear hA0 hval0
  refine (walk a0 len0 cap0 a1 a2 W w0.1 w0.2 w1 w2).mono fun e W' ⟨he, bel⟩ => ?_
  subst he
  exact ⟨_, rfl, _, _, _, [], _, [], hW', trodAll_mk1 (shut_bool Try.underlying4 _), (trodAll_cons_mk (Below.trod laidOut (by kernel_rfl) (of_decide_eq_true (by kernel_rfl)) k0 bel lt0) (trodAll_cons_mk (shut_int Try.underlying3 w1) (trodAll_cons_mk (shut_int Try.underlying3 w2) trodAll_mk0))), rfl, bel.frame _, fun h => by cases h⟩

theorem over : Rows.fnSettledPlaceAndPastRow.holds Try.pinned (OpenSpec.ofChange Rows.fnSettledPlaceAndPastSpec) :=
  OpenClaim.holds_of_wide 3 Try.f3 rfl rfl rfl rfl rfl rfl rfl ⟨rfl, rfl, rfl, rfl, rfl⟩ rfl rfl rfl rfl rfl (by kernel_rfl) Try.func3 (by kernel_rfl)
    (of_decide_eq_true (by kernel_rfl)) (by unfold Func.isWrapper; first | (rw [if_pos (by decide +kernel)]; kernel_rfl) | (rw [if_neg (by decide +kernel)]; exact ⟨rfl, rfl⟩))
    (fun os started H enc _ => lifted os started H enc)

theorem proved : Rows.FnSettledPlaceAndPastSaid := over
#print axioms proved
end Go.Proofs.Qxb6618031a.fnSettledPlaceAndPast
