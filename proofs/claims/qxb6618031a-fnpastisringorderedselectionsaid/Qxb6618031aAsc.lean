import Derived.Test.Qxb6618031aLeaf
namespace Go.Proofs.Qxb6618031a
open Go.RowKit Go.Sort

def ascB (Z : Nat → W3) (n : Nat) : Bool := (List.range (n - 1)).all fun k => decide (cmp3F (Z k) (Z (k + 1)) < 0)
theorem ascB_true {Z : Nat → W3} {n : Nat} (h : ∀ k, k + 1 < n → cmp3F (Z k) (Z (k + 1)) < 0) : ascB Z n = true := by
  simp only [ascB, List.all_eq_true, List.mem_range, decide_eq_true_eq]
  exact fun k hk => h k (by omega)
theorem ascB_spec {Z : Nat → W3} {n : Nat} (h : ascB Z n = true) : ∀ k, k + 1 < n → cmp3F (Z k) (Z (k + 1)) < 0 := by
  simp only [ascB, List.all_eq_true, List.mem_range, decide_eq_true_eq] at h
  exact fun k hk => h k (by omega)
theorem ascB_false {Z : Nat → W3} {n k : Nat} (hk : k + 1 < n) (h : ¬ cmp3F (Z k) (Z (k + 1)) < 0) : ascB Z n = false := by
  cases e : ascB Z n with
  | false => rfl
  | true => exact absurd (ascB_spec e k hk) h
theorem ret_bool {a b : Bool} (h : a = b) : Ending.returned (.bool a) = .returned (.bool b) := by rw [h]

set_option maxHeartbeats 1000000 in
theorem asc_any (b off n cap : Nat) (Z : Nat → W3) (w : World) (hn : n ≤ 1000000) (hR : Row3 w b off n Z) :
    Calls Try.prog 7 #[.slice (some ⟨b, off, none⟩) n cap] w
      fun e w' => e = .returned (.bool (ascB Z n)) ∧ Ext w w' := by
  go_enter Try.func7, Try.ntmps7
  go_wp2
  go_loopw [3] (fun i wr => ∃ k : Nat, 1 ≤ k ∧ (k ≤ n ∨ k = 1) ∧ i = .int .i64 k ∧ Ext w wr ∧ ∀ j, j + 1 < k → cmp3F (Z j) (Z (j + 1)) < 0) (fun i _ => n - (intOf i).toNat)
  case atStart => exact ⟨1, by omega, Or.inr rfl, rfl, Ext.refl _, fun j hj => absurd hj (by omega)⟩
  case round =>
    obtain ⟨k, hk1, hk, rfl, hE, hA⟩ := hrel
    have HA : Hid _ := hA
    clear hA
    by_cases hlt : k < n
    · obtain ⟨a0, a1, a2⟩ := (hR.ext hE).quiet (i := k - 1) (by omega)
      obtain ⟨b0, b1, b2⟩ := (hR.ext hE).quiet (i := k) (by omega)
      go_wp2
      refine wp_region_quiet_grown follows (by kernel_rfl) ?_
      repeat (go_big_quiet_step ((go_at_call 19; refine Ext.grown (cmp3_any _ _ _))))
      refine wpQuiet_nil ?_
      intro _ hw'
      obtain ⟨⟨nq, osq⟩, hw''⟩ := hw'
      subst hw''
      by_cases hc : cmp3F (Z (k - 1)) (Z k) < 0
      · go_wp2
        go_roundw
        case rel =>
          refine ⟨k + 1, by omega, by omega, by go_num, (hE.drewN _).grow _, fun j hj => ?_⟩
          by_cases hjk : j + 1 < k
          · exact HA.out j hjk
          · obtain rfl : k = j + 1 := by omega
            exact hc
        case measure => simp [intOf]; omega
      · have hf : Hid (ascB Z n = false) := ascB_false (k := k - 1) (by omega) (by rw [Nat.sub_add_cancel hk1]; exact hc)
        go_wp2
        go_ret
        exact ⟨ret_bool hf.out.symm, (hE.drewN _).grow _⟩
    · have ht : Hid (ascB Z n = true) := ascB_true (fun j hj => HA.out j (by omega))
      go_wp2
      go_ret
      exact ⟨ret_bool ht.out.symm, hE⟩

end Go.Proofs.Qxb6618031a
