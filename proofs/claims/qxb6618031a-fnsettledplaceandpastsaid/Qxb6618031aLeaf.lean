import Derived.Test.Qxb6618031aBase
namespace Go.Proofs.Qxb6618031a
open Go.RowKit Go.Sort

abbrev W3 := Int × Int × Int
def cmp3F (x y : W3) : Int :=
  if x.1 < y.1 then -1 else if y.1 < x.1 then 1 else
  if x.2.1 < y.2.1 then -1 else if y.2.1 < x.2.1 then 1 else
  if x.2.2 < y.2.2 then -1 else if y.2.2 < x.2.2 then 1 else 0

theorem ret_int {k : IntKind} {a b : Int} (h : a = b) : Ending.returned (.int k a) = .returned (.int k b) := by rw [h]

theorem cmp3F_eq (x y : W3) :
    (x.1 < y.1 → cmp3F x y = -1) ∧ (y.1 < x.1 → cmp3F x y = 1) ∧
    (x.1 ≤ y.1 → y.1 ≤ x.1 → x.2.1 < y.2.1 → cmp3F x y = -1) ∧ (x.1 ≤ y.1 → y.1 ≤ x.1 → y.2.1 < x.2.1 → cmp3F x y = 1) ∧
    (x.1 ≤ y.1 → y.1 ≤ x.1 → x.2.1 ≤ y.2.1 → y.2.1 ≤ x.2.1 → x.2.2 < y.2.2 → cmp3F x y = -1) ∧
    (x.1 ≤ y.1 → y.1 ≤ x.1 → x.2.1 ≤ y.2.1 → y.2.1 ≤ x.2.1 → y.2.2 < x.2.2 → cmp3F x y = 1) ∧
    (x.1 ≤ y.1 → y.1 ≤ x.1 → x.2.1 ≤ y.2.1 → y.2.1 ≤ x.2.1 → x.2.2 ≤ y.2.2 → y.2.2 ≤ x.2.2 → cmp3F x y = 0) := by
  unfold cmp3F
  refine ⟨?_, ?_, ?_, ?_, ?_, ?_, ?_⟩ <;> intros <;> (repeat' split) <;> omega

set_option maxHeartbeats 1000000 in
theorem cmp3_any (x y : W3) (w : World) :
    Calls Try.prog 19 #[.agg #[.int .u64 x.1, .int .u64 x.2.1, .int .u64 x.2.2], .agg #[.int .u64 y.1, .int .u64 y.2.1, .int .u64 y.2.2]] w
      fun e w' => e = .returned (.int .i64 (cmp3F x y)) ∧ Ext w w' := by
  have F : Hid _ := cmp3F_eq x y
  go_enter Try.func19, Try.ntmps19
  go_wp2
  refine wp_loop_rounds 4 ?_
  rw [rounds_succ]
  go_wp2
  go_quiet (fail)
  by_cases h1 : x.1 < y.1
  · go_wp2
    go_ret
    exact ⟨ret_int (F.out.1 h1).symm, by repeat (first | exact Ext.refl _ | apply Ext.drewN | apply Ext.alloc)⟩
  have g1 : y.1 ≤ x.1 := by omega
  clear h1
  go_wp2
  go_quiet (fail)
  by_cases h2 : y.1 < x.1
  · go_wp2
    go_ret
    exact ⟨ret_int (F.out.2.1 h2).symm, by repeat (first | exact Ext.refl _ | apply Ext.drewN | apply Ext.alloc)⟩
  have g2 : x.1 ≤ y.1 := by omega
  clear h2
  go_wp2
  rw [rounds_succ]
  go_wp2
  go_quiet (fail)
  by_cases h3 : x.2.1 < y.2.1
  · go_wp2
    go_ret
    exact ⟨ret_int (F.out.2.2.1 g2 g1 h3).symm, by repeat (first | exact Ext.refl _ | apply Ext.drewN | apply Ext.alloc)⟩
  have g3 : y.2.1 ≤ x.2.1 := by omega
  clear h3
  go_wp2
  go_quiet (fail)
  by_cases h4 : y.2.1 < x.2.1
  · go_wp2
    go_ret
    exact ⟨ret_int (F.out.2.2.2.1 g2 g1 h4).symm, by repeat (first | exact Ext.refl _ | apply Ext.drewN | apply Ext.alloc)⟩
  have g4 : x.2.1 ≤ y.2.1 := by omega
  clear h4
  go_wp2
  rw [rounds_succ]
  go_wp2
  go_quiet (fail)
  by_cases h5 : x.2.2 < y.2.2
  · go_wp2
    go_ret
    exact ⟨ret_int (F.out.2.2.2.2.1 g2 g1 g4 g3 h5).symm, by repeat (first | exact Ext.refl _ | apply Ext.drewN | apply Ext.alloc)⟩
  have g5 : y.2.2 ≤ x.2.2 := by omega
  clear h5
  go_wp2
  go_quiet (fail)
  by_cases h6 : y.2.2 < x.2.2
  · go_wp2
    go_ret
    exact ⟨ret_int (F.out.2.2.2.2.2.1 g2 g1 g4 g3 h6).symm, by repeat (first | exact Ext.refl _ | apply Ext.drewN | apply Ext.alloc)⟩
  have g6 : x.2.2 ≤ y.2.2 := by omega
  clear h6
  go_wp2
  rw [rounds_succ]
  go_wp2
  go_ret
  exact ⟨ret_int (F.out.2.2.2.2.2.2 g2 g1 g4 g3 g6 g5).symm, by repeat (first | exact Ext.refl _ | apply Ext.drewN | apply Ext.alloc)⟩

/-- The cells of a row of [3]uint64 (or ring.ID): element i lies at off + i * 3. -/
def Row3 (w : World) (b off n : Nat) (Z : Nat → W3) : Prop := b < w.heap.size ∧ ∀ i, i < n →
  w.cell? ⟨b, off + i * 3, none⟩ = some (.int .u64 (Z i).1) ∧ w.cell? ⟨b, off + i * 3 + 1, none⟩ = some (.int .u64 (Z i).2.1) ∧ w.cell? ⟨b, off + i * 3 + 2, none⟩ = some (.int .u64 (Z i).2.2)
theorem Row3.ext {w w' : World} {b off n : Nat} {Z : Nat → W3} (h : Row3 w b off n Z) (hE : Ext w w') : Row3 w' b off n Z := by
  refine ⟨Nat.lt_of_lt_of_le h.1 hE.size, fun i hi => ?_⟩
  have hc := hE.cells.1
  obtain ⟨h0, h1, h2⟩ := h.2 i hi
  exact ⟨(hc _ _ h.1).trans h0, (hc _ _ h.1).trans h1, (hc _ _ h.1).trans h2⟩
theorem Row3.at {w : World} {b off n : Nat} {Z : Nat → W3} (h : Row3 w b off n Z) {i : Nat} (hi : i < n) :
  w.cell? ⟨b, off + i * 3, none⟩ = some (.int .u64 (Z i).1) ∧ w.cell? ⟨b, off + i * 3 + 1, none⟩ = some (.int .u64 (Z i).2.1) ∧ w.cell? ⟨b, off + i * 3 + 2, none⟩ = some (.int .u64 (Z i).2.2) := h.2 i hi
/-- .. in every world that a quiet region passes through. -/
theorem Row3.quiet {w : World} {b off n : Nat} {Z : Nat → W3} (h : Row3 w b off n Z) {i : Nat} (hi : i < n) :
  (∀ m os, (grow (w.drewN m) os).cell? ⟨b, off + i * 3, none⟩ = some (.int .u64 (Z i).1)) ∧ (∀ m os, (grow (w.drewN m) os).cell? ⟨b, off + i * 3 + 1, none⟩ = some (.int .u64 (Z i).2.1)) ∧
  (∀ m os, (grow (w.drewN m) os).cell? ⟨b, off + i * 3 + 2, none⟩ = some (.int .u64 (Z i).2.2)) := by
  obtain ⟨h0, h1, h2⟩ := h.2 i hi
  exact ⟨cell_grown h.1 h0, cell_grown h.1 h1, cell_grown h.1 h2⟩

end Go.Proofs.Qxb6618031a
