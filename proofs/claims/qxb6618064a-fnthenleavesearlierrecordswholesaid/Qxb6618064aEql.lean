/- '!=' at an attribute; equalAttrs; held. -/
import Derived.Test.Qxb6618064aSmall
set_option linter.unusedVariables false
namespace Go.Proofs.Qxb6618064a
open Go.RowKit Go.Sort

def eq2 (x y : A2) : Bool := x.1.toList == y.1.toList && x.2.toList == y.2.toList
theorem eq2_iff (x y : A2) : eq2 x y = true ↔ x = y := by
  obtain ⟨⟨a⟩, ⟨b⟩⟩ := x
  obtain ⟨⟨c⟩, ⟨d⟩⟩ := y
  simp [eq2, ByteArray.toList_eq]
theorem eq2_refl (x : A2) : eq2 x x = true := (eq2_iff x x).2 rfl
theorem eq2_false {x y : A2} (h : x ≠ y) : eq2 x y = false := by
  cases e : eq2 x y with
  | false => rfl
  | true => exact absurd ((eq2_iff x y).1 e) h
theorem neq51 (x y : A2) (w : World) :
    (binOp .neq 51 (.agg #[.string x.1, .string x.2]) (.agg #[.string y.1, .string y.2])).run Try.prog w = .ok (.bool (!eq2 x y)) w := by
  have hS : Try.prog.underlying 51 = some (.struct (Try.prog.fieldsOf 51)) := by kernel_rfl
  have hp : Try.prog.stoodInHeld 51 = false := by kernel_rfl
  have h9 := Try.isAgg9
  rw [run_neq_struct, show (10000 : Nat) = 9999 + 1 from rfl, run_equalIn_agg w 9999 51 _ _ hS hp]
  simp only [Program.fieldsOf, Try.underlying51]
  simp only [Op.eqFields]
  simp [part, h9]
  rw [show (9999 : Nat) = 9998 + 1 from rfl, run_equalIn_string w 9998 9 _ _ Try.underlying9]
  unfold eq2
  cases h : (x.1.toList == y.1.toList)
  · simp
  · simp
    rw [run_equalIn_string w 9998 9 _ _ Try.underlying9]
    cases h2 : (x.2.toList == y.2.toList) <;> simp
theorem guard51 (op : BinOp) (a b : Operand) (xs ys : Array Value) (w : World) : (eqGuard op 51 a b (.agg xs) (.agg ys)).run Try.prog w = .ok () w := run_eqGuard_agg w op 51 a b xs ys (by kernel_rfl)

theorem ret_nat {k : IntKind} {a b : Nat} (h : a = b) : Ending.returned (.int k a) = .returned (.int k b) := by rw [h]
set_option maxHeartbeats 1000000 in
theorem held_any (ao : Option Addr) (n cap : Nat) (l : List A2) (w : World) (hn : n ≤ 200000) (hl : l.length = n) (hR : RowO w ao l) (hs : sumW l ≤ 100000000) :
    Calls Try.prog 20 #[.slice ao n cap] w fun e w' => e = .returned (.int .i64 (sumW l)) ∧ Ext w w' := by
  have HL : Hid _ := hl
  clear hl
  go_enter Try.func20, Try.ntmps20
  go_wp2
  go_loopw [4, 3] (fun i v wr => ∃ k r : Nat, k ≤ n ∧ i = .int .i64 k ∧ v = .int .i64 r ∧ r ≤ 100000000 ∧ Ext w wr ∧ Hid (r = sumW (l.take k))) (fun i _ _ => n - (intOf i).toNat)
  case atStart => exact ⟨0, 0, by omega, rfl, rfl, by omega, Ext.refl _, show 0 = sumW (l.take 0) from rfl⟩
  case round =>
    obtain ⟨k, r, hk, rfl, rfl, hr, hE, hq⟩ := hrel
    by_cases hlt : k < n
    · obtain ⟨b, off, x, rfl, hRr, hx⟩ := (hR.ext hE).get (i := k) (by rw [HL.out]; exact hlt)
      obtain ⟨a0, a1⟩ := hRr.quiet hx
      have hw := wt1_le hx
      have hst := sumW_take hx
      have hle := sumW_le (l := l) (k + 1)
      have HX : Hid (sumW (l.take (k + 1)) = r + wt1 x ∧ r + wt1 x ≤ 100000000) := ⟨by rw [hst, hq.out], by rw [hq.out]; omega⟩
      have h1 : x.1.size + x.2.size + 32 + r ≤ 100000000 := by have := HX.out.2; unfold wt1 at this; omega
      clear hx hRr hw hst hle
      go_wp2
      refine wp_region_quiet_grown follows (by kernel_rfl) ?_
      repeat (go_big_quiet_step (fail))
      refine wpQuiet_nil ?_
      intro _ hw'
      obtain ⟨⟨nq, osq⟩, hw''⟩ := hw'
      subst hw''
      go_wp2
      go_roundw
      case rel =>
        refine ⟨k + 1, r + wt1 x, by omega, by go_num, ?_, HX.out.2, (hE.drewN _).grow _, HX.out.1.symm⟩
        first | (congr 1; done) | (congr 1; unfold wt1; omega)
      case measure => simp [intOf]; omega
    · have hre : sumW l = r := by
        have := hq.out
        rw [show k = l.length by rw [HL.out]; omega, List.take_length] at this
        exact this.symm
      have HRE : Hid _ := hre
      clear hre
      go_wp2
      go_ret
      exact ⟨ret_nat HRE.out.symm, hE⟩

set_option maxHeartbeats 1000000 in
theorem equal_any (ao : Option Addr) (n cap : Nat) (l : List A2) (bo : Option Addr) (n' cap' : Nat) (l' : List A2) (w : World) (hn : n ≤ 400000) (hn' : n' ≤ 400000) (hl : l.length = n) (hl' : l'.length = n') (hR : RowO w ao l) (hR' : RowO w bo l') (he : l = l') :
    Calls Try.prog 13 #[.slice ao n cap, .slice bo n' cap'] w fun e w' => e = .returned (.bool true) ∧ Ext w w' := by
  subst he
  have hnn : n' = n := by omega
  subst hnn
  have h51 := neq51
  have g51 := guard51
  have HL : Hid _ := hl
  clear hl hl'
  go_enter Try.func13, Try.ntmps13
  go_wp2
  go_loopw [5] (fun i wr => ∃ k : Nat, k ≤ n' ∧ i = .int .i64 k ∧ Ext w wr) (fun i _ => n' - (intOf i).toNat)
  case atStart => exact ⟨0, by omega, rfl, Ext.refl _⟩
  case round =>
    obtain ⟨k, hk, rfl, hE⟩ := hrel
    by_cases hlt : k < n'
    · obtain ⟨b, off, x, rfl, hRr, hx⟩ := (hR.ext hE).get (i := k) (by rw [HL.out]; exact hlt)
      obtain ⟨c, off2, y, rfl, hRr2, hy⟩ := (hR'.ext hE).get (i := k) (by rw [HL.out]; exact hlt)
      obtain rfl : x = y := by rw [hx] at hy; injection hy
      obtain ⟨a0, a1⟩ := hRr.quiet hx
      obtain ⟨b0, b1⟩ := hRr2.quiet hx
      have e0 := eq2_refl x
      clear hx hy hRr hRr2
      go_wp2
      refine wp_region_quiet_grown follows (by kernel_rfl) ?_
      repeat (go_big_quiet_step (fail))
      refine wpQuiet_nil ?_
      intro _ hw'
      obtain ⟨⟨nq, osq⟩, hw''⟩ := hw'
      subst hw''
      go_wp2
      go_roundw
      case rel => exact ⟨k + 1, by omega, by go_num, (hE.drewN _).grow _⟩
      case measure => simp [intOf]; omega
    · go_wp2
      go_ret
      exact ⟨rfl, hE⟩
end Go.Proofs.Qxb6618064a
