import Derived.Test.Qxb6618031aBtw
set_option linter.unusedVariables false
namespace Go.Proofs.Qxb6618031a
open Go.RowKit Go.Sort

def withinB (z a b : W3) : Bool :=
  if cmp3F a b < 0 then decide (cmp3F a z < 0) && decide (cmp3F z b ≤ 0) else decide (cmp3F a z < 0) || decide (cmp3F z b ≤ 0)
def btwB (z a b : W3) : Bool := withinB z a b && !eq3 z b

theorem within_tt {z a b : W3} (h1 : cmp3F a b < 0) (h2 : cmp3F a z < 0) (h3 : cmp3F z b ≤ 0) : withinB z a b = true := by simp [withinB, h1, h2, h3]
theorem within_tf {z a b : W3} (h1 : cmp3F a b < 0) (h2 : cmp3F a z < 0) (h3 : ¬ cmp3F z b ≤ 0) : withinB z a b = false := by simp [withinB, h1, h2, h3]
theorem within_f {z a b : W3} (h1 : cmp3F a b < 0) (h2 : ¬ cmp3F a z < 0) : withinB z a b = false := by simp [withinB, h1, h2]
theorem within_nt {z a b : W3} (h1 : ¬ cmp3F a b < 0) (h2 : cmp3F a z < 0) : withinB z a b = true := by simp [withinB, h1, h2]
theorem within_nft {z a b : W3} (h1 : ¬ cmp3F a b < 0) (h2 : ¬ cmp3F a z < 0) (h3 : cmp3F z b ≤ 0) : withinB z a b = true := by simp [withinB, h1, h2, h3]
theorem within_nff {z a b : W3} (h1 : ¬ cmp3F a b < 0) (h2 : ¬ cmp3F a z < 0) (h3 : ¬ cmp3F z b ≤ 0) : withinB z a b = false := by simp [withinB, h1, h2, h3]

theorem heap3' (w : World) (A B C : Obj) : (((w.alloc A).alloc B).alloc C).heap[w.heap.size]? = some A ∧ (((w.alloc A).alloc B).alloc C).heap[w.heap.size + 1]? = some B ∧ (((w.alloc A).alloc B).alloc C).heap[w.heap.size + 1 + 1]? = some C := heap3 w A B C

/-- three boxes lie in W -/
structure Boxes (w W : World) (z a b : W3) : Prop where
  b0 : W.heap[w.heap.size]? = some (box z)
  b1 : W.heap[w.heap.size + 1]? = some (box a)
  b2 : W.heap[w.heap.size + 1 + 1]? = some (box b)
  ext : Ext w W
theorem Boxes.step {w W W' : World} {z a b : W3} (h : Boxes w W z a b) (hE : Ext W W') : Boxes w W' z a b :=
  ⟨hE.keeps h.b0, hE.keeps h.b1, hE.keeps h.b2, h.ext.trans hE⟩
theorem Boxes.start (w : World) (z a b : W3) : Boxes w (((w.alloc (box z)).alloc (box a)).alloc (box b)) z a b :=
  ⟨(heap3 w _ _ _).1, (heap3 w _ _ _).2.1, (heap3 w _ _ _).2.2, (((Ext.refl w).alloc _).alloc _).alloc _⟩

set_option maxHeartbeats 2000000 in
theorem within_any (z a b : W3) (w : World) :
    Calls Try.prog 30 #[.agg #[.int .u64 z.1, .int .u64 z.2.1, .int .u64 z.2.2], .agg #[.int .u64 a.1, .int .u64 a.2.1, .int .u64 a.2.2], .agg #[.int .u64 b.1, .int .u64 b.2.1, .int .u64 b.2.2]] w
      fun e w' => e = .returned (.bool (withinB z a b)) ∧ Ext w w' := by
  have H0 := Boxes.start w z a b
  obtain ⟨z0, z1, z2⟩ := boxed H0.b0
  obtain ⟨a0, a1, a2⟩ := boxed H0.b1
  obtain ⟨b0, b1, b2⟩ := boxed H0.b2
  go_enter Try.func30, Try.ntmps30
  go_upto_region 1 with fail
  change Code.wp _ _ _ _ (((w.alloc (box z)).alloc (box a)).alloc (box b))
  generalize ((w.alloc (box z)).alloc (box a)).alloc (box b) = W at H0 z0 z1 z2 a0 a1 a2 b0 b1 b2 ⊢
  by_cases h1 : cmp3F a b < 0
  · by_cases h2 : cmp3F a z < 0
    · by_cases h3 : cmp3F z b ≤ 0
      · have HR : Hid _ := within_tt h1 h2 h3
        go_wp2_with fail
        refine (compare_any a b _).mono ?_
        rintro e w1 ⟨rfl, hE1⟩
        have H1 := H0.step hE1
        clear z0 z1 z2 a0 a1 a2 b0 b1 b2 H0 hE1
        obtain ⟨z0, z1, z2⟩ := boxed H1.b0
        obtain ⟨a0, a1, a2⟩ := boxed H1.b1
        obtain ⟨b0, b1, b2⟩ := boxed H1.b2
        go_wp2_with fail
        refine (compare_any a z _).mono ?_
        rintro e w2 ⟨rfl, hE2⟩
        have H2 := H1.step hE2
        clear z0 z1 z2 a0 a1 a2 b0 b1 b2 H1 hE2
        obtain ⟨z0, z1, z2⟩ := boxed H2.b0
        obtain ⟨b0, b1, b2⟩ := boxed H2.b2
        go_wp2_with fail
        refine (compare_any z b _).mono ?_
        rintro e w3 ⟨rfl, hE3⟩
        have H3 := H2.step hE3
        go_wp2
        go_ret
        exact ⟨ret_bool HR.out.symm, H3.ext⟩
      · have h3b : decide (cmp3F z b ≤ 0) = false := decide_eq_false h3
        have HR : Hid _ := within_tf h1 h2 h3
        go_wp2_with fail
        refine (compare_any a b _).mono ?_
        rintro e w1 ⟨rfl, hE1⟩
        have H1 := H0.step hE1
        clear z0 z1 z2 a0 a1 a2 b0 b1 b2 H0 hE1
        obtain ⟨z0, z1, z2⟩ := boxed H1.b0
        obtain ⟨a0, a1, a2⟩ := boxed H1.b1
        obtain ⟨b0, b1, b2⟩ := boxed H1.b2
        go_wp2_with fail
        refine (compare_any a z _).mono ?_
        rintro e w2 ⟨rfl, hE2⟩
        have H2 := H1.step hE2
        clear z0 z1 z2 a0 a1 a2 b0 b1 b2 H1 hE2
        obtain ⟨z0, z1, z2⟩ := boxed H2.b0
        obtain ⟨b0, b1, b2⟩ := boxed H2.b2
        go_wp2_with fail
        refine (compare_any z b _).mono ?_
        rintro e w3 ⟨rfl, hE3⟩
        have H3 := H2.step hE3
        go_wp2
        go_ret
        exact ⟨ret_bool HR.out.symm, H3.ext⟩
    · have HR : Hid _ := within_f h1 h2
      go_wp2_with fail
      refine (compare_any a b _).mono ?_
      rintro e w1 ⟨rfl, hE1⟩
      have H1 := H0.step hE1
      clear z0 z1 z2 a0 a1 a2 b0 b1 b2 H0 hE1
      obtain ⟨z0, z1, z2⟩ := boxed H1.b0
      obtain ⟨a0, a1, a2⟩ := boxed H1.b1
      obtain ⟨b0, b1, b2⟩ := boxed H1.b2
      go_wp2_with fail
      refine (compare_any a z _).mono ?_
      rintro e w2 ⟨rfl, hE2⟩
      have H2 := H1.step hE2
      clear z0 z1 z2 a0 a1 a2 b0 b1 b2 H1 hE2
      go_wp2
      go_ret
      exact ⟨ret_bool HR.out.symm, H2.ext⟩
  · by_cases h2 : cmp3F a z < 0
    · have HR : Hid _ := within_nt h1 h2
      go_wp2_with fail
      refine (compare_any a b _).mono ?_
      rintro e w1 ⟨rfl, hE1⟩
      have H1 := H0.step hE1
      clear z0 z1 z2 a0 a1 a2 b0 b1 b2 H0 hE1
      obtain ⟨z0, z1, z2⟩ := boxed H1.b0
      obtain ⟨a0, a1, a2⟩ := boxed H1.b1
      obtain ⟨b0, b1, b2⟩ := boxed H1.b2
      go_wp2_with fail
      refine (compare_any a z _).mono ?_
      rintro e w2 ⟨rfl, hE2⟩
      have H2 := H1.step hE2
      clear z0 z1 z2 a0 a1 a2 b0 b1 b2 H1 hE2
      go_wp2
      go_ret
      exact ⟨ret_bool HR.out.symm, H2.ext⟩
    · by_cases h3 : cmp3F z b ≤ 0
      · have HR : Hid _ := within_nft h1 h2 h3
        go_wp2_with fail
        refine (compare_any a b _).mono ?_
        rintro e w1 ⟨rfl, hE1⟩
        have H1 := H0.step hE1
        clear z0 z1 z2 a0 a1 a2 b0 b1 b2 H0 hE1
        obtain ⟨z0, z1, z2⟩ := boxed H1.b0
        obtain ⟨a0, a1, a2⟩ := boxed H1.b1
        obtain ⟨b0, b1, b2⟩ := boxed H1.b2
        go_wp2_with fail
        refine (compare_any a z _).mono ?_
        rintro e w2 ⟨rfl, hE2⟩
        have H2 := H1.step hE2
        clear z0 z1 z2 a0 a1 a2 b0 b1 b2 H1 hE2
        obtain ⟨z0, z1, z2⟩ := boxed H2.b0
        obtain ⟨b0, b1, b2⟩ := boxed H2.b2
        go_wp2_with fail
        refine (compare_any z b _).mono ?_
        rintro e w3 ⟨rfl, hE3⟩
        have H3 := H2.step hE3
        go_wp2
        go_ret
        exact ⟨ret_bool HR.out.symm, H3.ext⟩
      · have h3b : decide (cmp3F z b ≤ 0) = false := decide_eq_false h3
        have h2b : decide (cmp3F a z < 0) = false := decide_eq_false h2
        have HR : Hid _ := within_nff h1 h2 h3
        go_wp2_with fail
        refine (compare_any a b _).mono ?_
        rintro e w1 ⟨rfl, hE1⟩
        have H1 := H0.step hE1
        clear z0 z1 z2 a0 a1 a2 b0 b1 b2 H0 hE1
        obtain ⟨z0, z1, z2⟩ := boxed H1.b0
        obtain ⟨a0, a1, a2⟩ := boxed H1.b1
        obtain ⟨b0, b1, b2⟩ := boxed H1.b2
        go_wp2_with fail
        refine (compare_any a z _).mono ?_
        rintro e w2 ⟨rfl, hE2⟩
        have H2 := H1.step hE2
        clear z0 z1 z2 a0 a1 a2 b0 b1 b2 H1 hE2
        obtain ⟨z0, z1, z2⟩ := boxed H2.b0
        obtain ⟨b0, b1, b2⟩ := boxed H2.b2
        go_wp2_with fail
        refine (compare_any z b _).mono ?_
        rintro e w3 ⟨rfl, hE3⟩
        have H3 := H2.step hE3
        go_wp2
        go_ret
        exact ⟨ret_bool HR.out.symm, H3.ext⟩

theorem neq30 (x y : W3) (w : World) :
    (binOp .neq 30 (.agg #[.int .u64 x.1, .int .u64 x.2.1, .int .u64 x.2.2]) (.agg #[.int .u64 y.1, .int .u64 y.2.1, .int .u64 y.2.2])).run Try.prog w = .ok (.bool (!eq3 x y)) w := by
  have h := eql30 x y w
  rw [run_eql_struct] at h
  rw [run_neq_struct]
  revert h
  generalize (Op.equalIn 10000 30 _ _).run Try.prog w = r
  intro h
  cases r with
  | ok v w' => simp [Result.andThen] at h ⊢; obtain ⟨rfl, rfl⟩ := h; simp
  | halt v w' => simp [Result.andThen] at h

set_option maxHeartbeats 2000000 in
theorem between_any (z a b : W3) (w : World) :
    Calls Try.prog 23 #[.agg #[.int .u64 z.1, .int .u64 z.2.1, .int .u64 z.2.2], .agg #[.int .u64 a.1, .int .u64 a.2.1, .int .u64 a.2.2], .agg #[.int .u64 b.1, .int .u64 b.2.1, .int .u64 b.2.2]] w
      fun e w' => e = .returned (.bool (btwB z a b)) ∧ Ext w w' := by
  have H0 := Boxes.start w z a b
  obtain ⟨z0, z1, z2⟩ := boxed H0.b0
  obtain ⟨a0, a1, a2⟩ := boxed H0.b1
  obtain ⟨b0, b1, b2⟩ := boxed H0.b2
  have n30 := neq30
  have g30 := guard30
  unfold btwB
  cases hw : withinB z a b with
  | true =>
    go_enter Try.func23, Try.ntmps23
    go_upto_region 1 with fail
    change Code.wp _ _ _ _ (((w.alloc (box z)).alloc (box a)).alloc (box b))
    generalize ((w.alloc (box z)).alloc (box a)).alloc (box b) = W at H0 z0 z1 z2 a0 a1 a2 b0 b1 b2 ⊢
    go_wp2_with fail
    refine (within_any z a b _).mono ?_
    rintro e w1 ⟨rfl, hE1⟩
    have H1 := H0.step hE1
    clear z0 z1 z2 a0 a1 a2 b0 b1 b2 H0 hE1
    obtain ⟨z0, z1, z2⟩ := boxed H1.b0
    obtain ⟨b0, b1, b2⟩ := boxed H1.b2
    go_wp2
    go_ret
    exact ⟨rfl, H1.ext⟩
  | false =>
    go_enter Try.func23, Try.ntmps23
    go_upto_region 1 with fail
    change Code.wp _ _ _ _ (((w.alloc (box z)).alloc (box a)).alloc (box b))
    generalize ((w.alloc (box z)).alloc (box a)).alloc (box b) = W at H0 z0 z1 z2 a0 a1 a2 b0 b1 b2 ⊢
    go_wp2_with fail
    refine (within_any z a b _).mono ?_
    rintro e w1 ⟨rfl, hE1⟩
    have H1 := H0.step hE1
    clear z0 z1 z2 a0 a1 a2 b0 b1 b2 H0 hE1
    go_wp2
    go_ret
    exact ⟨rfl, H1.ext⟩
end Go.Proofs.Qxb6618031a
