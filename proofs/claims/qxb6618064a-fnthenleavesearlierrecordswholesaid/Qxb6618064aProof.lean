/- The statement Rows.FnThenLeavesEarlierRecordsWholeSaid. The frame is the guide's own (proof-skeleton), turned to slices of two strings. -/
import Derived.Test.Qxb6618064aMain
import Derived.Test.Qxb6618064aOpen
set_option linter.unusedVariables false
namespace Go.Proofs.Qxb6618064a.fnThenLeavesEarlierRecordsWhole
open Go.ChangeShapes Go.WideShapes Go.ChangeAt Go.RowKit

theorem own : ownKnob Try.prog.godebug = none := by kernel_rfl
theorem laidOut : laidOutB Try.prog = true := by kernel_rfl

set_option maxRecDepth 100000 in
set_option maxHeartbeats 1000000 in
theorem early (aa sa ua : Option Addr) (na ca ns cs nu cu : Nat) (w : World) (ha : na ≤ maxLen) (hs : ns ≤ maxLen) (hu : nu ≤ maxLen) (h : 65536 < na ∨ 65536 < ns ∨ 65536 < nu) :
    Calls Try.prog 3 #[.slice aa na ca, .slice sa ns cs, .slice ua nu cu] w fun e w' => e = .returned (.bool true) ∧ Below w.heap.size w w' := by
  unfold maxLen at ha hs hu
  by_cases h1 : 65536 < na
  · go_enter Try.func3, Try.ntmps3
    go_wp2
    go_ret
    exact ⟨rfl, Below.refl _ _⟩
  · by_cases h2 : 65536 < ns
    · go_enter Try.func3, Try.ntmps3
      go_wp2
      go_ret
      exact ⟨rfl, Below.refl _ _⟩
    · have h3 : 65536 < nu := by omega
      clear h
      go_enter Try.func3, Try.ntmps3
      go_wp2
      go_ret
      exact ⟨rfl, Below.refl _ _⟩

theorem walk (aa sa ua : Option Addr) (na ca ns cs nu cu : Nat) (w : World) (ha : na ≤ maxLen) (hs : ns ≤ maxLen) (hu : nu ≤ maxLen) (hza : aa = none → na = 0 ∧ ca = 0) (hzs : sa = none → ns = 0 ∧ cs = 0) (hzu : ua = none → nu = 0 ∧ cu = 0)
    (ra : ∃ l : List A2, l.length = na ∧ RowO w aa l ∧ ∀ x ∈ l, x.1.size ≤ maxLen ∧ x.2.size ≤ maxLen) (rs : ∃ l : List A2, l.length = ns ∧ RowO w sa l ∧ ∀ x ∈ l, x.1.size ≤ maxLen ∧ x.2.size ≤ maxLen) (ru : ∃ l : List A2, l.length = nu ∧ RowO w ua l ∧ ∀ x ∈ l, x.1.size ≤ maxLen ∧ x.2.size ≤ maxLen) :
    Calls Try.prog 3 #[.slice aa na ca, .slice sa ns cs, .slice ua nu cu] w fun e w' => e = .returned (.bool true) ∧ Below w.heap.size w w' := by
  by_cases h : 65536 < na ∨ 65536 < ns ∨ 65536 < nu
  · exact early aa sa ua na ca ns cs nu cu w ha hs hu h
  · obtain ⟨la, a1, a2, a3⟩ := ra
    obtain ⟨ls, s1, s2, s3⟩ := rs
    obtain ⟨lu, u1, u2, u3⟩ := ru
    exact fn3_any aa sa ua na ca ns cs nu cu la ls lu w a2 s2 u2 a1 s1 u1 hza hzs hzu a3 s3 u3 (by omega) (by omega) (by omega)

set_option maxRecDepth 100000 in
theorem lifted (os : Os) (started : os.Started) (H : Type) (enc : TypeId × Value → H) :
    ReturnsInHanded {} Try.checked os 3 .any (Rows.fnThenLeavesEarlierRecordsWholeSpec.pre6 enc Try.prog Try.f3 Rows.fnThenLeavesEarlierRecordsWholeRow.domain false) (Rows.fnThenLeavesEarlierRecordsWholeSpec.post enc Try.prog Try.f3 false true false false) := by
  refine returnsInHanded_of_change (C := Try.checked) own started (by kernel_rfl) Try.func3
    (ChangeSpec.witness6 (enc := enc) (C := Try.checked) false ⟨#[], #[.slice none 0 0, .slice none 0 0, .slice none 0 0], []⟩ 8 (by kernel_rfl) (by kernel_rfl) (by kernel_rfl) (by kernel_rfl)) ?_
  intro W base args ds gs before hval0 hW hcnd _
  have hval : ∀ (j : Nat) t v, Try.f3.params[j]? = some t → args[j]? = some v → Value.okWide Try.prog W .any base t v := hval0
  have hW' := hW
  obtain ⟨p, q, hA0, hV, rfl, hfz, hnd⟩ := hW
  have hA : DataW.TrodAll enc Try.prog W 0 (fun _ => true) true Try.f3.params.toList args.toList ds p := hA0
  rw [Try.params3] at hA hval
  obtain ⟨v0, vs0, d0, ds0, p0, q0, hargs, rfl, rfl, h0, r0⟩ := trodAll_cons hA
  obtain ⟨v1, vs1, d1, ds1, p1, q1, rfl, rfl, rfl, h1, r1⟩ := trodAll_cons r0
  obtain ⟨v2, vs2, d2, ds2, p2, q2, rfl, rfl, rfl, h2, r2⟩ := trodAll_cons r1
  obtain ⟨rfl, rfl, rfl⟩ := trodAll_nil r2
  obtain rfl : args = #[v0, v1, v2] := by cases args; simp_all
  obtain ⟨rfl, rfl⟩ := trodVars_none hV
  obtain ⟨a0, len0, cap0, rfl⟩ := okWide_slice Try.underlying22 (hval 0 22 v0 rfl rfl)
  obtain ⟨a1, len1, cap1, rfl⟩ := okWide_slice Try.underlying22 (hval 1 22 v1 rfl rfl)
  obtain ⟨a2, len2, cap2, rfl⟩ := okWide_slice Try.underlying22 (hval 2 22 v2 rfl rfl)
  have k0 := h0
  have k1 := h1
  have k2 := h2
  have lt0 : ∀ x ∈ p0, x.block < W.heap.size := by obtain ⟨m, hm⟩ := k0; exact DataW.trod_lt m _ _ _ hm
  have lt1 : ∀ x ∈ p1, x.block < W.heap.size := by obtain ⟨m, hm⟩ := k1; exact DataW.trod_lt m _ _ _ hm
  have lt2 : ∀ x ∈ p2, x.block < W.heap.size := by obtain ⟨m, hm⟩ := k2; exact DataW.trod_lt m _ _ _ hm
  obtain ⟨f0, h0⟩ := h0
  obtain ⟨f1, h1⟩ := h1
  obtain ⟨f2, h2⟩ := h2
  obtain ⟨n0, z0, w0⟩ := open_rows2 h0
  obtain ⟨n1, z1, w1⟩ := open_rows2 h1
  obtain ⟨n2, z2, w2⟩ := open_rows2 h2
  clear hA0 hval0
  refine (walk a0 a1 a2 len0 cap0 len1 cap1 len2 cap2 W n0 n1 n2 z0 z1 z2 w0 w1 w2).mono fun e W' ⟨he, bel⟩ => ?_
  subst he
  exact ⟨_, rfl, _, _, _, [], _, [], hW', trodAll_mk1 (shut_bool Try.underlying4 _), (trodAll_cons_mk (Below.trod laidOut (by kernel_rfl) (of_decide_eq_true (by kernel_rfl)) k0 bel lt0) (trodAll_cons_mk (Below.trod laidOut (by kernel_rfl) (of_decide_eq_true (by kernel_rfl)) k1 bel lt1) (trodAll_cons_mk (Below.trod laidOut (by kernel_rfl) (of_decide_eq_true (by kernel_rfl)) k2 bel lt2) trodAll_mk0))), rfl, bel.frame _, fun h => by cases h⟩

theorem over : Rows.fnThenLeavesEarlierRecordsWholeRow.holds Try.pinned (OpenSpec.ofChange Rows.fnThenLeavesEarlierRecordsWholeSpec) :=
  OpenClaim.holds_of_wide 3 Try.f3 rfl rfl rfl rfl rfl rfl rfl ⟨rfl, rfl, rfl, rfl, rfl⟩ rfl rfl rfl rfl rfl (by kernel_rfl) Try.func3 (by kernel_rfl)
    (of_decide_eq_true (by kernel_rfl)) (by unfold Func.isWrapper; first | (rw [if_pos (by decide +kernel)]; kernel_rfl) | (rw [if_neg (by decide +kernel)]; exact ⟨rfl, rfl⟩))
    (fun os started H enc _ => lifted os started H enc)

theorem proved : Rows.FnThenLeavesEarlierRecordsWholeSaid := over
#print axioms proved
end Go.Proofs.Qxb6618064a.fnThenLeavesEarlierRecordsWhole
