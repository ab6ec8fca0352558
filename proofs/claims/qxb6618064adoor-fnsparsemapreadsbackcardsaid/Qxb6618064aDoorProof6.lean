/- The statement Rows.FnSparseMapReadsBackCardSaid: the row, then the tied card. -/
import Derived.Test.Qxb6618064aDoorLaid
import Derived.Test.Qxb6618064aDoorMain6
import Derived.Test.Qxb6618064aDoorTie
import Derived.Test.Qxb6618064aDoorCards
import Derived.SevenTiedAt
set_option linter.unusedVariables false
namespace Go.Proofs.Qxb6618064aDoor.fnSparseMapReadsBack
open Go.ChangeShapes Go.WideShapes Go.ChangeAt Go.RowKit

theorem walk (size : Int) (ao : Option Addr) (n cap : Nat) (mid : Bool) (w : World) (hn : n ≤ maxLen) (hz : ao = none → n = 0 ∧ cap = 0) (hr : ∃ l : List A2, l.length = n ∧ RowO w ao l ∧ ∀ x ∈ l, In64 x.1 ∧ In64 x.2) (hsz : In64 size) (htab : Lib.TabIs Tryd.prog w powN .u64 Lib.pow10Tab) :
    Calls Tryd.prog 6 #[.int .i64 size, .slice ao n cap, .bool mid] w fun e w' => e = .returned (.bool true) ∧ Below w.heap.size w w' := by
  by_cases h : 65536 < n
  · exact fn6_early size ao n cap mid w hn h
  · obtain ⟨l, h1, h2, h3⟩ := hr
    exact fn6_any size ao n cap mid l w h2 h1 (by omega) hz hsz h3 htab

/-- a world that meets the row's condition: the settled one, the three tables laid -/
theorem laid_world (os : Os) : ∃ w0 : World, w0.os = os ∧ (w0.forCall (fun _ _ => 0) ⟨#[], #[.int .i64 0, .slice none 0 0, .bool false], []⟩).variablesB Tryd.checked.prog = true ∧
    ((w0.forCall (fun _ _ => 0) ⟨#[], #[.int .i64 0, .slice none 0 0, .bool false], []⟩).heap.toList.drop Tryd.checked.prog.globals.size).take ((begin Tryd.checked.prog (fun _ _ => 0) default).world.heap.size - Tryd.checked.prog.globals.size) = (begin Tryd.checked.prog (fun _ _ => 0) default).world.heap.toList.drop Tryd.checked.prog.globals.size ∧
    Input.okWideB Tryd.checked.prog (w0.forCall (fun _ _ => 0) ⟨#[], #[.int .i64 0, .slice none 0 0, .bool false], []⟩) 6 ⟨#[], #[.int .i64 0, .slice none 0 0, .bool false], []⟩ = true ∧
    (∀ (H : Type) (enc : TypeId × Value → H), Rows.fnSparseMapReadsBackSpec.preB enc Tryd.checked.prog Tryd.f6 [] false (w0.forCall (fun _ _ => 0) ⟨#[], #[.int .i64 0, .slice none 0 0, .bool false], []⟩).memory #[.int .i64 0, .slice none 0 0, .bool false] 8 = true) ∧
    (∀ (H : Type) (enc : TypeId × Value → H), Rows.fnSparseMapReadsBackSpec.sizedB enc Tryd.checked.prog Tryd.f6 false (w0.forCall (fun _ _ => 0) ⟨#[], #[.int .i64 0, .slice none 0 0, .bool false], []⟩).memory #[.int .i64 0, .slice none 0 0, .bool false] 8 = true) ∧
    laidMetH Tryd.prog tables (w0.forCall (fun _ _ => 0) ⟨#[], #[.int .i64 0, .slice none 0 0, .bool false], []⟩).memory := by
  refine ⟨{ World.holding Tryd.prog os ⟨#[], #[], []⟩ with heap := (((World.holding Tryd.prog os ⟨#[], #[], []⟩).heap.modify 3 (layTab .u64 Lib.pow10Tab)).modify 4 (layTab .u8 deB32)).modify 5 (layTab .u8 deB64) }, rfl, by kernel_rfl, by kernel_rfl, by kernel_rfl, fun H enc => by kernel_rfl, fun H enc => by kernel_rfl, ?_⟩
  exact laidMetH_of_parts (laidMet_of_run' 8 (by kernel_rfl) (by kernel_rfl)) (by kernel_rfl)

set_option maxRecDepth 100000 in
theorem lifted (os : Os) (started : os.Started) (H : Type) (enc : TypeId × Value → H) :
    ReturnsInHanded {} Tryd.checked os 6 .any (fun w args => (Rows.fnSparseMapReadsBackSpec.pre enc Tryd.prog Tryd.f6 [] false w args ∧ laidMetH Tryd.prog tables w) ∧ sizedMet enc Tryd.prog Tryd.f6 (OpenSpec.ofChange Rows.fnSparseMapReadsBackSpec) false w args)
      (Rows.fnSparseMapReadsBackSpec.post enc Tryd.prog Tryd.f6 false true false false) := by
  obtain ⟨w0, x1, x2, x3, x4, x5, x6, x7⟩ := laid_world os
  refine returnsInHanded_of_change_and (C := Tryd.checked) (X := fun w _ => laidMetH Tryd.prog tables w) (fun _ _ _ hh h => h.of_heap hh) own started (by kernel_rfl) Tryd.func6
    (ChangeSpec.witness_at (enc := enc) (C := Tryd.checked) (os := os) (X := fun w _ => laidMetH Tryd.prog tables w) false w0 #[.int .i64 0, .slice none 0 0, .bool false] 8 x1 x2 x3 x4 (x5 H enc) (x6 H enc) x7) ?_
  intro W base args ds gs before hval0 hW _ _ hL _
  have hval : ∀ (j : Nat) t v, Tryd.f6.params[j]? = some t → args[j]? = some v → Value.okWide Tryd.prog W .any base t v := hval0
  have hW' := hW
  obtain ⟨p, q, hA0, hV, rfl, hfz, hnd⟩ := hW
  have hA : DataW.TrodAll enc Tryd.prog W 0 (fun _ => true) true Tryd.f6.params.toList args.toList ds p := hA0
  rw [Tryd.params6] at hA hval
  obtain ⟨v0, vs0, d0, ds0, p0, q0, hargs, rfl, rfl, h0, r0⟩ := trodAll_cons hA
  obtain ⟨v1, vs1, d1, ds1, p1, q1, rfl, rfl, rfl, h1, r1⟩ := trodAll_cons r0
  obtain ⟨v2, vs2, d2, ds2, p2, q2, rfl, rfl, rfl, h2, r2⟩ := trodAll_cons r1
  obtain ⟨rfl, rfl, rfl⟩ := trodAll_nil r2
  obtain rfl : args = #[v0, v1, v2] := by cases args; simp_all
  obtain ⟨rfl, rfl⟩ := trodVars_none hV
  obtain ⟨a0, rfl, rfl, rfl, w0'⟩ := open_int Tryd.underlying2 (hval 0 2 v0 rfl rfl) h0
  obtain ⟨a1, len1, cap1, rfl⟩ := okWide_slice Tryd.underlying29 (hval 1 29 v1 rfl rfl)
  obtain ⟨b2, rfl, rfl, rfl⟩ := open_bool Tryd.underlying4 (hval 2 4 v2 rfl rfl) h2
  have k1 := h1
  have lt1 : ∀ x ∈ p1, x.block < W.heap.size := by obtain ⟨m, hm⟩ := k1; exact DataW.trod_lt m _ _ _ hm
  obtain ⟨f1, h1⟩ := h1
  obtain ⟨n1, z1, w1⟩ := open_regs h1
  clear hA0 hval0
  refine (walk a0 a1 len1 cap1 b2 W n1 z1 w1 (in64_of w0') (tab_of hL)).mono fun e W' ⟨he, bel⟩ => ?_
  subst he
  exact ⟨_, rfl, _, _, _, [], _, [], hW', trodAll_mk1 (shut_bool Tryd.underlying4 _), (trodAll_cons_mk (shut_int Tryd.underlying2 w0') (trodAll_cons_mk (Below.trod laidOut (by kernel_rfl) (of_decide_eq_true (by kernel_rfl)) k1 bel lt1) (trodAll_cons_mk (shut_bool Tryd.underlying4 _) trodAll_mk0))), rfl, bel.frame _, fun h => by cases h⟩

theorem over : Rows.fnSparseMapReadsBackRow.holds Tryd.pinned (OpenSpec.ofChange Rows.fnSparseMapReadsBackSpec) :=
  OpenClaim.holds_of_wide 6 Tryd.f6 rfl rfl rfl rfl rfl rfl rfl ⟨rfl, rfl, rfl, rfl, rfl⟩ rfl rfl rfl rfl rfl (by kernel_rfl) Tryd.func6 (by kernel_rfl)
    (of_decide_eq_true (by kernel_rfl)) (by unfold Func.isWrapper; first | (rw [if_pos (by decide +kernel)]; kernel_rfl) | (rw [if_neg (by decide +kernel)]; exact ⟨rfl, rfl⟩))
    (fun os started H enc _ => lifted os started H enc)

theorem proved : Rows.FnSparseMapReadsBackCardSaid :=
  Claim7.holds_tied_plain_at .later [] [.data, .data, .data] true (true, "0ab6f9dd1c0fc3f739546d13017c550e5dc47c73e31a5042066c3d6e79422276") true
    over (fun _ h => by cases h) (by kernel_rfl) (fun _ h => by cases h) fnSparseMapReadsBack_row_tie rfl ⟨rfl, rfl⟩ (by kernel_rfl) rfl
    (fun f fn hf hfn => by
      obtain rfl : f = 6 := Option.some.inj ((show Tryd.prog.funcNamed Rows.fnSparseMapReadsBackRow.func = some 6 by kernel_rfl).symm.trans hf) |>.symm
      obtain rfl : fn = Tryd.f6 := (Option.some.inj (Tryd.func6.symm.trans hfn)).symm
      exact ⟨by kernel_rfl, fun j t ht => by
        rw [Tryd.params6] at ht
        have hm : t ∈ [2, 29, 4] := by simpa using Array.mem_of_getElem? ht
        have hall : ([2, 29, 4].all fun u => !Tryd.prog.wantsStandIn u) = true := by kernel_rfl
        exact (show Tryd.prog.wantsStandIn t = false by simpa using List.all_eq_true.1 hall t hm)⟩)
    (by kernel_rfl)
#print axioms proved
end Go.Proofs.Qxb6618064aDoor.fnSparseMapReadsBack
