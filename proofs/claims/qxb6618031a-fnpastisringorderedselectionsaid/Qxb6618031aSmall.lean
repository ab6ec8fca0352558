import Derived.Test.Qxb6618031aEql
namespace Go.Proofs.Qxb6618031a
open Go.RowKit Go.Sort

set_option maxHeartbeats 400000 in
theorem zzid_any (a b c : Int) (w : World) :
    Calls Try.prog 17 #[.agg #[.int .u64 a, .int .u64 b, .int .u64 c]] w
      fun e w' => e = .returned (.agg #[.int .u64 a, .int .u64 b, .int .u64 c]) ∧ Ext w w' := by
  go_enter Try.func17, Try.ntmps17
  go_wp2
  refine bodyPost_ret (v := .agg #[.int .u64 a, .int .u64 b, .int .u64 c]) (by simp [results, Try.results17, go_sem]) rfl ⟨rfl, ?_⟩
  repeat (first | exact Ext.refl _ | apply Ext.drewN | apply Ext.alloc)

set_option maxHeartbeats 400000 in
theorem zzwords_any (a b c : Int) (w : World) :
    Calls Try.prog 21 #[.agg #[.int .u64 a, .int .u64 b, .int .u64 c]] w
      fun e w' => e = .returned (.agg #[.int .u64 a, .int .u64 b, .int .u64 c]) ∧ Ext w w' := by
  go_enter Try.func21, Try.ntmps21
  go_wp2
  refine bodyPost_ret (v := .agg #[.int .u64 a, .int .u64 b, .int .u64 c]) (by simp [results, Try.results21, go_sem]) rfl ⟨rfl, ?_⟩
  repeat (first | exact Ext.refl _ | apply Ext.drewN | apply Ext.alloc)

set_option maxHeartbeats 400000 in
theorem minInt_any (a b : Int) (w : World) :
    Calls Try.prog 10 #[.int .i64 a, .int .i64 b] w fun e w' => e = .returned (.int .i64 (if a < b then a else b)) ∧ w' = w := by
  by_cases h : a < b
  · rw [if_pos h]
    go_enter Try.func10, Try.ntmps10
    go_wp2
    go_ret
    exact ⟨rfl, rfl⟩
  · rw [if_neg h]
    go_enter Try.func10, Try.ntmps10
    go_wp2
    go_ret
    exact ⟨rfl, rfl⟩

set_option maxHeartbeats 400000 in
theorem skipAt_any (b off n cap : Nat) (Z : Nat → W3) (gi t : Nat) (w : World) (hn : n ≤ 1000000) (hR : Row3 w b off n Z) (ht : t + 1 < n) :
    Calls Try.prog 15 #[.slice (some ⟨b, off, none⟩) n cap, .int .i64 gi, .int .i64 t] w
      fun e w' => e = .returned (.agg #[.int .u64 (Z (if t < gi then t else t + 1)).1, .int .u64 (Z (if t < gi then t else t + 1)).2.1, .int .u64 (Z (if t < gi then t else t + 1)).2.2]) ∧ Ext w w' := by
  have hb := hR.1
  by_cases h : t < gi
  · rw [if_pos h]
    obtain ⟨a0, a1, a2⟩ := hR.at (i := t) (by omega)
    go_enter Try.func15, Try.ntmps15
    go_wp2
    refine bodyPost_ret (v := .agg #[.int .u64 (Z t).1, .int .u64 (Z t).2.1, .int .u64 (Z t).2.2]) (by simp [results, Try.results15, go_sem]) rfl ⟨rfl, ?_⟩
    repeat (first | exact Ext.refl _ | apply Ext.drewN | apply Ext.alloc)
  · rw [if_neg h]
    obtain ⟨a0, a1, a2⟩ := hR.at (i := t + 1) (by omega)
    go_enter Try.func15, Try.ntmps15
    go_wp2
    refine bodyPost_ret (v := .agg #[.int .u64 (Z (t + 1)).1, .int .u64 (Z (t + 1)).2.1, .int .u64 (Z (t + 1)).2.2]) (by simp [results, Try.results15, go_sem]) rfl ⟨rfl, ?_⟩
    repeat (first | exact Ext.refl _ | apply Ext.drewN | apply Ext.alloc)

set_option maxHeartbeats 400000 in
theorem sameWords_any (x y : W3) (w : World) :
    Calls Try.prog 11 #[.agg #[.int .u64 x.1, .int .u64 x.2.1, .int .u64 x.2.2], .agg #[.int .u64 y.1, .int .u64 y.2.1, .int .u64 y.2.2]] w
      fun e w' => e = .returned (.bool (eq3 x y)) ∧ Ext w w' := by
  have h28 := eql28
  have g28 := guard28
  go_enter Try.func11, Try.ntmps11
  go_wp2
  generalize hW : (w.alloc (.cells #[.int .u64 x.1, .int .u64 x.2.1, .int .u64 x.2.2] 30)).alloc (.cells #[.int .u64 y.1, .int .u64 y.2.1, .int .u64 y.2.2] 28) = W
  have hE : Ext w W := by subst hW; exact ((Ext.refl _).alloc _).alloc _
  have hs : w.heap.size + 1 < W.heap.size := by subst hW; simp
  have a0 := cell_grown (w := W) (a := ⟨w.heap.size, 0, none⟩) (v := .int .u64 x.1) (by show w.heap.size < _; omega) (by subst hW; go_simp)
  have a1 := cell_grown (w := W) (a := ⟨w.heap.size, 1, none⟩) (v := .int .u64 x.2.1) (by show w.heap.size < _; omega) (by subst hW; go_simp)
  have a2 := cell_grown (w := W) (a := ⟨w.heap.size, 2, none⟩) (v := .int .u64 x.2.2) (by show w.heap.size < _; omega) (by subst hW; go_simp)
  have b0 := cell_grown (w := W) (a := ⟨w.heap.size + 1, 0, none⟩) (v := .int .u64 y.1) (by show w.heap.size + 1 < _; omega) (by subst hW; go_simp)
  have b1 := cell_grown (w := W) (a := ⟨w.heap.size + 1, 1, none⟩) (v := .int .u64 y.2.1) (by show w.heap.size + 1 < _; omega) (by subst hW; go_simp)
  have b2 := cell_grown (w := W) (a := ⟨w.heap.size + 1, 2, none⟩) (v := .int .u64 y.2.2) (by show w.heap.size + 1 < _; omega) (by subst hW; go_simp)
  clear hW
  refine wp_region_quiet_grown follows (by kernel_rfl) ?_
  repeat (go_big_quiet_step ((go_at_call 21; refine Ext.grown (zzwords_any _ _ _ _))))
  refine wpQuiet_nil ?_
  intro _ hw'
  obtain ⟨⟨nq, osq⟩, hw''⟩ := hw'
  subst hw''
  go_wp2
  go_ret
  exact ⟨rfl, (hE.drewN _).grow _⟩

end Go.Proofs.Qxb6618031a
