import Derived.Test.Qxb6618031aSettled
set_option linter.unusedVariables false
namespace Go.Proofs.Qxb6618031a
open Go.RowKit Go.Sort

set_option maxHeartbeats 1000000 in
theorem index_any (b n cap : Nat) (f : Nat → W3) (v : W3) (j0 : Nat) (w : World) (hn : n ≤ 1000000) (hR : Buf3 w b n f) (hj : j0 ≤ n) (hno : ∀ j, j < j0 → f j ≠ v) (hyes : j0 < n → f j0 = v) :
    Calls Try.prog 31 #[.slice (some ⟨b, 0, none⟩) n cap, .agg #[.int .u64 v.1, .int .u64 v.2.1, .int .u64 v.2.2]] w
      fun e w' => e = .returned (.int .i64 (if j0 < n then (j0 : Int) else -1)) ∧ Ext w w' := by
  have h30 := eql30
  have g30 := guard30
  have HN : Hid _ := hno
  have HY : Hid _ := hyes
  clear hno hyes
  have hb := hR.lt
  go_enter Try.func31, Try.ntmps31
  go_wp2
  go_loopw [8, 5] (fun v8 v5 wr => ∃ k t : Nat, k ≤ j0 ∧ v8 = .int .i64 k ∧ wr = (w.alloc (.cells #[.int .u64 v.1, .int .u64 v.2.1, .int .u64 v.2.2] 30)).drewN t) (fun v8 _ _ => n - (intOf v8).toNat)
  case atStart => exact ⟨0, 0, by omega, rfl, rfl⟩
  case round =>
    obtain ⟨k, t, hk, rfl, rfl⟩ := hrel
    by_cases hlt : k < n
    · obtain ⟨a0, a1, a2⟩ := hR.cell (i := k) (by omega)
      by_cases hkj : k < j0
      · have he : eq3 v (f k) = false := eq3_false (fun e => HN.out k hkj e.symm)
        go_wp2
        go_quiet (fail)
        go_wp2
        go_roundw
        case rel => exact ⟨k + 1, _, by omega, by go_num, rfl⟩
        case measure => simp [intOf]; omega
      · obtain rfl : k = j0 := by omega
        have he : eq3 v (f k) = true := (eq3_iff _ _).2 (HY.out hlt).symm
        go_wp2
        go_quiet (fail)
        go_wp2
        go_ret
        exact ⟨ret_int (by first | rfl | rw [if_pos hlt]), ((Ext.refl w).alloc _).drewN _⟩
    · go_wp2
      go_ret
      have hjn : ¬ j0 < n := by omega
      exact ⟨ret_int (by first | rfl | rw [if_neg hjn]), (((Ext.refl w).alloc _).drewN _)⟩

set_option maxHeartbeats 1000000 in
theorem successor_any (bp : Nat) (x y : W3) (bs m : Nat) (keep : Int) (f : Nat → W3) (w : World) (hm : 0 < m) (hP : w.heap[bp]? = some (placeObj x y bs m keep)) (hS : Buf3 w bs m f) :
    Calls Try.prog 24 #[.pointer (some ⟨bp, 0, none⟩)] w
      fun e w' => e = .returned (.agg #[.int .u64 (f 0).1, .int .u64 (f 0).2.1, .int .u64 (f 0).2.2]) ∧ Ext w w' := by
  obtain ⟨_, _, _, _, _, _, q6, _, _⟩ := place_cells hP
  obtain ⟨a0, a1, a2⟩ := hS.cell (i := 0) hm
  rw [Nat.zero_mul] at a0 a1 a2
  rw [Nat.zero_add] at a1 a2
  have hb := hS.lt
  have hbp : bp < w.heap.size := (Array.getElem?_eq_some_iff.1 hP).1
  go_enter Try.func24, Try.ntmps24
  go_wp2
  refine bodyPost_ret (v := .agg #[.int .u64 (f 0).1, .int .u64 (f 0).2.1, .int .u64 (f 0).2.2]) (by simp [results, Try.results24, go_sem]) rfl ⟨rfl, ?_⟩
  repeat (first | exact Ext.refl _ | apply Ext.drewN | apply Ext.alloc)

end Go.Proofs.Qxb6618031a
