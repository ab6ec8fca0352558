/- ID.Compare, Within, Between; the closure that past hands to the sort. -/
import Derived.Test.Qxb6618031aSettled
import Derived.Test.Qxb6618031aRing
set_option linter.unusedVariables false
namespace Go.Proofs.Qxb6618031a
open Go.RowKit Go.Sort

def cmpU (a b : Int) : Int := if a < b then -1 else if b < a then 1 else 0

set_option maxHeartbeats 400000 in
theorem isNaN_any (a : Int) (w : World) : Calls Try.prog 54 #[.int .u64 a] w fun e w' => e = .returned (.bool false) ∧ w' = w := by
  have h : (a != a) = false := by simp
  go_enter Try.func54, Try.ntmps54
  go_wp2
  go_ret
  exact ⟨rfl, rfl⟩

set_option maxHeartbeats 400000 in
theorem cmpU_any (a b : Int) (w : World) : Calls Try.prog 52 #[.int .u64 a, .int .u64 b] w fun e w' => e = .returned (.int .i64 (cmpU a b)) ∧ w' = w := by
  unfold cmpU
  by_cases h1 : a < b
  · rw [if_pos h1]
    go_enter Try.func52, Try.ntmps52
    go_wp2_with (go_at_call 54; refine (isNaN_any _ _).mono ?_; rintro e w' ⟨rfl, rfl⟩)
    go_ret
    exact ⟨rfl, rfl⟩
  · rw [if_neg h1]
    by_cases h2 : b < a
    · rw [if_pos h2]
      go_enter Try.func52, Try.ntmps52
      go_wp2_with (go_at_call 54; refine (isNaN_any _ _).mono ?_; rintro e w' ⟨rfl, rfl⟩)
      go_ret
      exact ⟨rfl, rfl⟩
    · rw [if_neg h2]
      go_enter Try.func52, Try.ntmps52
      go_wp2_with (go_at_call 54; refine (isNaN_any _ _).mono ?_; rintro e w' ⟨rfl, rfl⟩)
      go_ret
      exact ⟨rfl, rfl⟩

theorem cmpU_facts (a b : Int) : (a < b → cmpU a b = -1) ∧ (b < a → cmpU a b = 1) ∧ (a = b → cmpU a b = 0) := by
  unfold cmpU
  refine ⟨?_, ?_, ?_⟩ <;> intro h <;> (repeat' split) <;> omega

set_option maxHeartbeats 2000000 in
theorem scmp_any (x y : W3) (ba bb : Nat) (w : World) (hx : w.cell? ⟨ba, 0, none⟩ = some (.int .u64 x.1) ∧ w.cell? ⟨ba, 1, none⟩ = some (.int .u64 x.2.1) ∧ w.cell? ⟨ba, 2, none⟩ = some (.int .u64 x.2.2))
    (hy : w.cell? ⟨bb, 0, none⟩ = some (.int .u64 y.1) ∧ w.cell? ⟨bb, 1, none⟩ = some (.int .u64 y.2.1) ∧ w.cell? ⟨bb, 2, none⟩ = some (.int .u64 y.2.2)) :
    Calls Try.prog 46 #[.slice (some ⟨ba, 0, none⟩) 3 3, .slice (some ⟨bb, 0, none⟩) 3 3] w fun e w' => e = .returned (.int .i64 (cmp3F x y)) ∧ w' = w := by
  obtain ⟨x0, x1, x2⟩ := hx
  obtain ⟨y0, y1, y2⟩ := hy
  have F : Hid _ := cmp3F_eq x y
  go_enter Try.func46, Try.ntmps46
  go_wp2
  refine wp_loop_rounds 4 ?_
  rw [rounds_succ]
  rcases Int.lt_trichotomy x.1 y.1 with h | h | h
  · have c1 : cmpU x.1 y.1 = -1 := (cmpU_facts _ _).1 h
    go_wp2_with (go_at_call 52; refine (cmpU_any _ _ _).mono ?_; rintro e w' ⟨rfl, rfl⟩)
    go_ret
    exact ⟨ret_int (F.out.1 h).symm, rfl⟩
  · have c1 : cmpU x.1 y.1 = 0 := (cmpU_facts _ _).2.2 h
    have a1 : x.1 ≤ y.1 := by omega
    have a2 : y.1 ≤ x.1 := by omega
    clear h
    go_wp2_with (go_at_call 52; refine (cmpU_any _ _ _).mono ?_; rintro e w' ⟨rfl, rfl⟩)
    rw [rounds_succ]
    rcases Int.lt_trichotomy x.2.1 y.2.1 with h | h | h
    · have c2 : cmpU x.2.1 y.2.1 = -1 := (cmpU_facts _ _).1 h
      go_wp2_with (go_at_call 52; refine (cmpU_any _ _ _).mono ?_; rintro e w' ⟨rfl, rfl⟩)
      go_ret
      exact ⟨ret_int (F.out.2.2.1 a1 a2 h).symm, rfl⟩
    · have c2 : cmpU x.2.1 y.2.1 = 0 := (cmpU_facts _ _).2.2 h
      have a3 : x.2.1 ≤ y.2.1 := by omega
      have a4 : y.2.1 ≤ x.2.1 := by omega
      clear h
      go_wp2_with (go_at_call 52; refine (cmpU_any _ _ _).mono ?_; rintro e w' ⟨rfl, rfl⟩)
      rw [rounds_succ]
      rcases Int.lt_trichotomy x.2.2 y.2.2 with h | h | h
      · have c3 : cmpU x.2.2 y.2.2 = -1 := (cmpU_facts _ _).1 h
        go_wp2_with (go_at_call 52; refine (cmpU_any _ _ _).mono ?_; rintro e w' ⟨rfl, rfl⟩)
        go_ret
        exact ⟨ret_int (F.out.2.2.2.2.1 a1 a2 a3 a4 h).symm, rfl⟩
      · have c3 : cmpU x.2.2 y.2.2 = 0 := (cmpU_facts _ _).2.2 h
        have a5 : x.2.2 ≤ y.2.2 := by omega
        have a6 : y.2.2 ≤ x.2.2 := by omega
        clear h
        go_wp2_with (go_at_call 52; refine (cmpU_any _ _ _).mono ?_; rintro e w' ⟨rfl, rfl⟩)
        rw [rounds_succ]
        go_wp2
        go_ret
        exact ⟨ret_int (F.out.2.2.2.2.2.2 a1 a2 a3 a4 a5 a6).symm, rfl⟩
      · have c3 : cmpU x.2.2 y.2.2 = 1 := (cmpU_facts _ _).2.1 h
        go_wp2_with (go_at_call 52; refine (cmpU_any _ _ _).mono ?_; rintro e w' ⟨rfl, rfl⟩)
        go_ret
        exact ⟨ret_int (F.out.2.2.2.2.2.1 a1 a2 a3 a4 h).symm, rfl⟩
    · have c2 : cmpU x.2.1 y.2.1 = 1 := (cmpU_facts _ _).2.1 h
      go_wp2_with (go_at_call 52; refine (cmpU_any _ _ _).mono ?_; rintro e w' ⟨rfl, rfl⟩)
      go_ret
      exact ⟨ret_int (F.out.2.2.2.1 a1 a2 h).symm, rfl⟩
  · have c1 : cmpU x.1 y.1 = 1 := (cmpU_facts _ _).2.1 h
    go_wp2_with (go_at_call 52; refine (cmpU_any _ _ _).mono ?_; rintro e w' ⟨rfl, rfl⟩)
    go_ret
    exact ⟨ret_int (F.out.2.1 h).symm, rfl⟩

theorem scmp_ext (x y : W3) (ba bb : Nat) (w : World) (hx : w.cell? ⟨ba, 0, none⟩ = some (.int .u64 x.1) ∧ w.cell? ⟨ba, 1, none⟩ = some (.int .u64 x.2.1) ∧ w.cell? ⟨ba, 2, none⟩ = some (.int .u64 x.2.2))
    (hy : w.cell? ⟨bb, 0, none⟩ = some (.int .u64 y.1) ∧ w.cell? ⟨bb, 1, none⟩ = some (.int .u64 y.2.1) ∧ w.cell? ⟨bb, 2, none⟩ = some (.int .u64 y.2.2)) :
    Calls Try.prog 46 #[.slice (some ⟨ba, 0, none⟩) 3 3, .slice (some ⟨bb, 0, none⟩) 3 3] w fun e w' => e = .returned (.int .i64 (cmp3F x y)) ∧ Ext w w' :=
  (scmp_any x y ba bb w hx hy).mono fun e w' ⟨h1, h2⟩ => ⟨h1, by rw [h2]; exact Ext.refl _⟩

def box (x : W3) : Obj := .cells #[.int .u64 x.1, .int .u64 x.2.1, .int .u64 x.2.2] 30 (0, 0)
theorem boxed {w : World} {b : Nat} {x : W3} (h : w.heap[b]? = some (box x)) :
    w.cell? ⟨b, 0, none⟩ = some (.int .u64 x.1) ∧ w.cell? ⟨b, 1, none⟩ = some (.int .u64 x.2.1) ∧ w.cell? ⟨b, 2, none⟩ = some (.int .u64 x.2.2) := by
  simp [World.cell?, h, box]
theorem heap2 (w : World) (A B : Obj) : ((w.alloc A).alloc B).heap[w.heap.size]? = some A ∧ ((w.alloc A).alloc B).heap[w.heap.size + 1]? = some B := by
  show ((w.heap.push A).push B)[w.heap.size]? = some A ∧ ((w.heap.push A).push B)[w.heap.size + 1]? = some B
  simp only [Array.getElem?_push, Array.size_push]
  refine ⟨?_, ?_⟩
  · rw [if_neg (by omega), if_pos trivial]
  · rw [if_pos trivial]
theorem Ext.keeps {w w' : World} (h : Ext w w') {b : Nat} {o : Obj} (hb : w.heap[b]? = some o) : w'.heap[b]? = some o := (h.block b (Array.getElem?_eq_some_iff.1 hb).1).trans hb

set_option maxHeartbeats 1000000 in
theorem compare_any (x y : W3) (w : World) :
    Calls Try.prog 35 #[.agg #[.int .u64 x.1, .int .u64 x.2.1, .int .u64 x.2.2], .agg #[.int .u64 y.1, .int .u64 y.2.1, .int .u64 y.2.2]] w
      fun e w' => e = .returned (.int .i64 (cmp3F x y)) ∧ Ext w w' := by
  go_enter Try.func35, Try.ntmps35
  go_wp2
  obtain ⟨h1, h2⟩ := heap2 w (box x) (box y)
  have hE : Ext w ((w.alloc (box x)).alloc (box y)) := ((Ext.refl _).alloc _).alloc _
  change Code.wp _ _ _ _ ((w.alloc (box x)).alloc (box y))
  generalize (w.alloc (box x)).alloc (box y) = W at h1 h2 hE ⊢
  have q1 : ∀ m os, (grow (W.drewN m) os).heap[w.heap.size]? = some (box x) := fun m os => Ext.keeps ⟨m, os, rfl⟩ h1
  have q2 : ∀ m os, (grow (W.drewN m) os).heap[w.heap.size + 1]? = some (box y) := fun m os => Ext.keeps ⟨m, os, rfl⟩ h2
  refine wp_region_quiet_grown follows (by kernel_rfl) ?_
  repeat (go_big_quiet_step ((go_at_call 46; refine Ext.grown (scmp_ext x y _ _ _ (boxed (q1 _ _)) (boxed (q2 _ _))))))
  refine wpQuiet_nil ?_
  intro _ hw'
  obtain ⟨⟨nq, osq⟩, hw''⟩ := hw'
  subst hw''
  go_wp2
  go_ret
  exact ⟨rfl, (hE.drewN _).grow _⟩

end Go.Proofs.Qxb6618031a
