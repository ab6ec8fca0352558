/- sub3, holds, the length bound of FnPastIsRingOrderedSelection. -/
import Derived.Test.Qxb6618031aSmall
set_option linter.unusedVariables false
namespace Go.Proofs.Qxb6618031a
open Go.RowKit Go.Sort

def stepB (x a b : Int) : Int := if x < a ∨ (x = a ∧ b = 1) then 1 else 0
def stepD (x a b : Int) : Int := x - a - b + (if x < a ∨ (x = a ∧ b = 1) then 18446744073709551616 else 0)
def subF (x a : W3) : W3 :=
  (stepD x.1 a.1 (stepB x.2.1 a.2.1 (stepB x.2.2 a.2.2 0)), stepD x.2.1 a.2.1 (stepB x.2.2 a.2.2 0), stepD x.2.2 a.2.2 0)
def W (x : Int) : Prop := 0 ≤ x ∧ x < 18446744073709551616

/-- word j -/
def wd (x : W3) (j : Nat) : Int := if j = 0 then x.1 else if j = 1 then x.2.1 else x.2.2
/-- the borrow behind the words from k on -/
def borF (x a : W3) (k : Nat) : Int :=
  if k = 3 then 0 else if k = 2 then stepB x.2.2 a.2.2 0 else if k = 1 then stepB x.2.1 a.2.1 (stepB x.2.2 a.2.2 0) else stepB x.1 a.1 (stepB x.2.1 a.2.1 (stepB x.2.2 a.2.2 0))
def arr3 (D : Nat → Int) : Obj := .cells #[.int .u64 (D 0), .int .u64 (D 1), .int .u64 (D 2)] 28 (0, 0)
theorem borF_step (x a : W3) {j : Nat} (hj : j < 3) : borF x a j = stepB (wd x j) (wd a j) (borF x a (j + 1)) := by
  match j, hj with
  | 0, _ => simp [borF, wd]
  | 1, _ => simp [borF, wd]
  | 2, _ => simp [borF, wd]
theorem borF_01 (x a : W3) (k : Nat) : borF x a k = 0 ∨ borF x a k = 1 := by
  have hs : ∀ x a b, stepB x a b = 0 ∨ stepB x a b = 1 := fun x a b => by unfold stepB; split <;> simp
  unfold borF
  (repeat' split) <;> first | exact Or.inl rfl | exact hs _ _ _
def digF (x a : W3) (j : Nat) : Int := stepD (wd x j) (wd a j) (borF x a (j + 1))
theorem subF_dig (x a : W3) : subF x a = (digF x a 0, digF x a 1, digF x a 2) := by simp [subF, digF, borF, wd]

structure SubS (w W : World) (x a : W3) (D : Nat → Int) : Prop where
  ext : Ext w W
  bx : W.heap[w.heap.size]? = some (arr3 (wd x))
  ba : W.heap[w.heap.size + 1]? = some (arr3 (wd a))
  br : W.heap[w.heap.size + 2]? = some (arr3 (fun _ => 0))
  bd : W.heap[w.heap.size + 3]? = some (arr3 D)
theorem arr3_cell {w : World} {b : Nat} {D : Nat → Int} (h : w.heap[b]? = some (arr3 D)) {j : Nat} (hj : j < 3) : w.cell? ⟨b, j, none⟩ = some (.int .u64 (D j)) := by
  match j, hj with
  | 0, _ => simp [World.cell?, h, arr3]
  | 1, _ => simp [World.cell?, h, arr3]
  | 2, _ => simp [World.cell?, h, arr3]
theorem arr3_frozen {w : World} {b : Nat} {D : Nat → Int} (h : w.heap[b]? = some (arr3 D)) (o : Nat) : w.frozen? ⟨b, o, none⟩ = false := by simp [World.frozen?, h, arr3]

theorem wrapU (n : Int) : IntKind.u64.wrap n = n % 18446744073709551616 := by simp [IntKind.wrap, IntKind.bits, IntKind.signed]
theorem push_at (h : Array Obj) (o : Obj) : (h.push o)[h.size]? = some o := by simp
theorem push_old {h : Array Obj} {o p : Obj} {k : Nat} (e : h[k]? = some p) : (h.push o)[k]? = some p := by
  have := (Array.getElem?_eq_some_iff.1 e).1
  rw [Array.getElem?_push, if_neg (by omega)]
  exact e
theorem alloc4 (w : World) (o0 o1 o2 o3 : Obj) : ((((w.alloc o0).alloc o1).alloc o2).alloc o3).heap[w.heap.size]? = some o0 ∧ ((((w.alloc o0).alloc o1).alloc o2).alloc o3).heap[w.heap.size + 1]? = some o1 ∧
    ((((w.alloc o0).alloc o1).alloc o2).alloc o3).heap[w.heap.size + 2]? = some o2 ∧ ((((w.alloc o0).alloc o1).alloc o2).alloc o3).heap[w.heap.size + 3]? = some o3 := by
  refine ⟨push_old (push_old (push_old (push_at _ _))), push_old (push_old ?_), push_old ?_, ?_⟩
  · show ((w.heap.push o0).push o1)[w.heap.size + 1]? = _
    rw [show w.heap.size + 1 = (w.heap.push o0).size by simp]; exact push_at _ _
  · show (((w.heap.push o0).push o1).push o2)[w.heap.size + 2]? = _
    rw [show w.heap.size + 2 = ((w.heap.push o0).push o1).size by simp]; exact push_at _ _
  · show ((((w.heap.push o0).push o1).push o2).push o3)[w.heap.size + 3]? = _
    rw [show w.heap.size + 3 = (((w.heap.push o0).push o1).push o2).size by simp]; exact push_at _ _
theorem heap_set_same {w : World} {b o : Nat} {v : Value} {c : Array Value} {t : TypeId} {fr : Nat × Nat} (h : w.heap[b]? = some (.cells c t fr)) :
    (w.setCell ⟨b, o, none⟩ v).heap[b]? = some (.cells (c.setIfInBounds o v) t fr) := by
  simp [World.setCell, Array.getElem?_modify, h]
theorem heap_set_other {w : World} {b b' o : Nat} {v : Value} (h : b' ≠ b) : (w.setCell ⟨b', o, none⟩ v).heap[b]? = w.heap[b]? := by
  simp [World.setCell, Array.getElem?_modify, h]
theorem arr3_set {w : World} {b : Nat} {D : Nat → Int} (h : w.heap[b]? = some (arr3 D)) {j : Nat} (hj : j < 3) (v : Int) :
    (w.setCell ⟨b, j, none⟩ (.int .u64 v)).heap[b]? = some (arr3 (fun i => if i = j then v else D i)) := by
  rw [heap_set_same h]
  match j, hj with
  | 0, _ => simp [arr3]
  | 1, _ => simp [arr3]
  | 2, _ => simp [arr3]
theorem arr3_congr {D E : Nat → Int} (h : ∀ i, i < 3 → D i = E i) : arr3 D = arr3 E := by
  unfold arr3
  rw [h 0 (by omega), h 1 (by omega), h 2 (by omega)]
theorem SubS.step {w W : World} {x a : W3} {j : Nat} (h : SubS w W x a (fun i => if j + 1 ≤ i then digF x a i else 0)) (hj : j < 3) {v : Int} (hv : v = digF x a j) :
    SubS w (W.setCell ⟨w.heap.size + 1 + 1 + 1, j, none⟩ (.int .u64 v)) x a (fun i => if j ≤ i then digF x a i else 0) := by
  refine ⟨h.ext.setCell (by show w.heap.size ≤ w.heap.size + 1 + 1 + 1; omega) _, (heap_set_other (by omega)).trans h.bx, (heap_set_other (by omega)).trans h.ba, (heap_set_other (by omega)).trans h.br, (arr3_set h.bd hj v).trans ?_⟩
  congr 1
  refine arr3_congr fun i hi => ?_
  by_cases e : i = j
  · subst e; simp [hv]
  · by_cases e2 : j + 1 ≤ i
    · rw [if_neg e, if_pos e2, if_pos (by omega)]
    · rw [if_neg e, if_neg e2, if_neg (by omega)]
set_option maxHeartbeats 4000000 in
theorem sub3_any (x a : W3) (w : World) (hx : ∀ j, W (wd x j)) (ha : ∀ j, W (wd a j)) :
    Calls Try.prog 18 #[.agg #[.int .u64 x.1, .int .u64 x.2.1, .int .u64 x.2.2], .agg #[.int .u64 a.1, .int .u64 a.2.1, .int .u64 a.2.2]] w
      fun e w' => e = .returned (.agg #[.int .u64 (subF x a).1, .int .u64 (subF x a).2.1, .int .u64 (subF x a).2.2]) ∧ Ext w w' := by
  go_enter Try.func18, Try.ntmps18
  go_wp2
  go_loopw [7, 6] (fun v7 v6 wr => ∃ (k : Nat) (z : Int), k ≤ 3 ∧ v7 = .int .i64 z ∧ z = (k : Int) - 1 ∧ v6 = .int .u64 (borF x a k) ∧ SubS w wr x a (fun j => if k ≤ j then digF x a j else 0)) (fun v7 _ _ => (intOf v7 + 1).toNat)
  case atStart =>
    obtain ⟨h0, h1, h2, h3⟩ := alloc4 w (arr3 (wd x)) (arr3 (wd a)) (arr3 (fun _ => 0)) (arr3 (fun _ => 0))
    exact ⟨3, 2, by omega, rfl, by omega, by simp [borF], ((((Ext.refl w).alloc _).alloc _).alloc _).alloc _, h0, h1, h2, h3⟩
  case round =>
    obtain ⟨k, z, hk, rfl, hz, rfl, hS⟩ := hrel
    by_cases h0 : k = 0
    · subst h0
      obtain rfl : z = -1 := by omega
      have d0 := arr3_cell hS.bd (j := 0) (by omega)
      have d1 := arr3_cell hS.bd (j := 1) (by omega)
      have d2 := arr3_cell hS.bd (j := 2) (by omega)
      have r0 : wr.cell? ⟨w.heap.size + 1 + 1, 0, none⟩ = some (.int .u64 0) := arr3_cell hS.br (j := 0) (by omega)
      have r1 : wr.cell? ⟨w.heap.size + 1 + 1, 1, none⟩ = some (.int .u64 0) := arr3_cell hS.br (j := 1) (by omega)
      have r2 : wr.cell? ⟨w.heap.size + 1 + 1, 2, none⟩ = some (.int .u64 0) := arr3_cell hS.br (j := 2) (by omega)
      have rf := arr3_frozen hS.br
      simp only [Nat.zero_le, if_true] at d0 d1 d2
      clear hz hk
      go_wp2
      rw [subF_dig]
      refine bodyPost_ret (v := .agg #[.int .u64 (digF x a 0), .int .u64 (digF x a 1), .int .u64 (digF x a 2)]) (by simp [results, Try.results18, go_sem, r0, r1, r2]) rfl ⟨rfl, ?_⟩
      iterate 3 refine Ext.setCell ?_ (by show w.heap.size ≤ w.heap.size + 1 + 1; omega) _
      exact hS.ext
    · obtain ⟨j, rfl⟩ : ∃ j, k = j + 1 := ⟨k - 1, by omega⟩
      obtain rfl : z = (j : Int) := by omega
      have hj : j < 3 := by omega
      have x0 := arr3_cell hS.bx hj
      have a0 := arr3_cell hS.ba hj
      have d0 := arr3_cell hS.bd hj
      have df := arr3_frozen hS.bd
      have hxj := hx j
      have haj := ha j
      have hstep := borF_step x a hj
      have hdig : digF x a j = stepD (wd x j) (wd a j) (borF x a (j + 1)) := rfl
      unfold W at hxj haj
      generalize wd x j = xj at x0 hxj hstep hdig
      generalize wd a j = aj at a0 haj hstep hdig
      have HS : Hid _ := hstep
      have HD : Hid _ := hdig
      clear hstep hdig hz hk h0
      rcases borF_01 x a (j + 1) with hb | hb
      · rw [hb] at HS HD ⊢
        clear hb
        rcases Int.lt_trichotomy xj aj with hlt | heq | hgt
        · go_wp2
          go_roundw
          case rel => exact ⟨j, (j : Int) - 1, by omega, rfl, rfl, by rw [HS.out, stepB, if_pos (Or.inl hlt)], hS.step hj (by rw [HD.out, stepD, if_pos (Or.inl hlt), wrapU, wrapU]; omega)⟩
          case measure => simp [intOf] <;> omega
        · subst heq
          go_wp2
          go_roundw
          case rel => exact ⟨j, (j : Int) - 1, by omega, rfl, rfl, by rw [HS.out, stepB, if_neg (by omega)], hS.step hj (by rw [HD.out, stepD, if_neg (by omega)]; omega)⟩
          case measure => simp [intOf] <;> omega
        · have hne : (xj == aj) = false := by simp; omega
          go_wp2
          go_roundw
          case rel => exact ⟨j, (j : Int) - 1, by omega, rfl, rfl, by rw [HS.out, stepB, if_neg (by omega)], hS.step hj (by rw [HD.out, stepD, if_neg (by omega)]; omega)⟩
          case measure => simp [intOf] <;> omega
      · rw [hb] at HS HD ⊢
        clear hb
        rcases Int.lt_trichotomy xj aj with hlt | heq | hgt
        · go_wp2
          go_roundw
          case rel => exact ⟨j, (j : Int) - 1, by omega, rfl, rfl, by rw [HS.out, stepB, if_pos (Or.inl hlt)], hS.step hj (by rw [HD.out, stepD, if_pos (Or.inl hlt), wrapU, wrapU]; omega)⟩
          case measure => simp [intOf] <;> omega
        · subst heq
          go_wp2
          go_roundw
          case rel => exact ⟨j, (j : Int) - 1, by omega, rfl, rfl, by rw [HS.out, stepB, if_pos (Or.inr ⟨rfl, rfl⟩)], hS.step hj (by rw [HD.out, stepD, if_pos (Or.inr ⟨rfl, rfl⟩)]; first | omega | (rw [wrapU]; omega))⟩
          case measure => simp [intOf] <;> omega
        · have hne : (xj == aj) = false := by simp; omega
          go_wp2
          go_roundw
          case rel => exact ⟨j, (j : Int) - 1, by omega, rfl, rfl, by rw [HS.out, stepB, if_neg (by omega)], hS.step hj (by rw [HD.out, stepD, if_neg (by omega)]; omega)⟩
          case measure => simp [intOf] <;> omega
end Go.Proofs.Qxb6618031a
