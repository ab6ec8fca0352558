/- records, given. -/
import Derived.Test.Qxb6618064aMrg
set_option linter.unusedVariables false
namespace Go.Proofs.Qxb6618064a
open Go.RowKit Go.Sort Go.Maps Go.WideShapes Go.ChangeShapes Go.WideMaps Plain

abbrev zero27 : Obj := .cells #[.pointer none, .int .i64 0, .int .i64 0, .int .i64 0, .int .i64 0] 27 (0, 0)
abbrev rec0 : Value := .agg #[.pointer none, .int .i64 0, .int .i64 0, .int .i64 0, .int .i64 0]
abbrev recV (p : Nat) (n m s l : Nat) : Value := .agg #[.pointer (some ⟨p, 0, none⟩), .int .i64 n, .int .i64 m, .int .i64 s, .int .i64 l]
abbrev rec27 (p : Nat) (n m s l : Nat) : Obj := .cells #[.pointer (some ⟨p, 0, none⟩), .int .i64 n, .int .i64 m, .int .i64 s, .int .i64 l] 27 (0, 0)
theorem cells27 {w : World} {b : Nat} {a0 a1 a2 a3 a4 : Value} (h : w.heap[b]? = some (.cells #[a0, a1, a2, a3, a4] 27 (0, 0))) : w.cell? ⟨b, 0, none⟩ = some a0 ∧ w.cell? ⟨b, 1, none⟩ = some a1 ∧ w.cell? ⟨b, 2, none⟩ = some a2 ∧ w.cell? ⟨b, 3, none⟩ = some a3 ∧ w.cell? ⟨b, 4, none⟩ = some a4 ∧ (∀ o, w.frozen? ⟨b, o, none⟩ = false) ∧ b < w.heap.size := by
  refine ⟨?_, ?_, ?_, ?_, ?_, fun o => ?_, (Array.getElem?_eq_some_iff.1 h).1⟩ <;> simp [World.cell?, World.frozen?, h]
def Small (L : List A2) : Prop := (∀ x ∈ L, x.1.size ≤ 1048576 ∧ x.2.size ≤ 1048576) ∧ sumW L ≤ 100000000
def RecPost (w W : World) (g m cap : Nat) (L : List A2) (e : Ending) : Prop := ∃ p, e = .returned (recV p L.length L.length (sumW L) (sumW L)) ∧ LogAt W p g m cap L ∧ Ext w W ∧ w.heap.size ≤ p

set_option maxHeartbeats 2000000 in
theorem records_nil (p g m cap : Nat) (w : World) (h : LogAt w p g m cap []) :
    Calls Try.prog 25 #[.pointer (some ⟨p, 0, none⟩)] w fun e w' => e = .returned rec0 ∧ Ext w w' := by
  have hE0 : Ext w (w.alloc zero27) := (Ext.refl w).alloc _
  obtain ⟨c0, c1, cf⟩ := h.cells
  have hlt := h.lt.1
  go_enter Try.func25, Try.ntmps25
  go_wp2
  refine bodyPost_ret (v := rec0) (by simp [results, Try.results25, go_sem]) rfl ⟨rfl, ?_⟩
  exact hE0

def set5 (w : World) (b : Nat) (a0 a1 a2 a3 a4 : Value) : World := ((((w.setCell ⟨b, 0, none⟩ a0).setCell ⟨b, 1, none⟩ a1).setCell ⟨b, 2, none⟩ a2).setCell ⟨b, 3, none⟩ a3).setCell ⟨b, 4, none⟩ a4
theorem set5_other {w : World} {b b' : Nat} {a0 a1 a2 a3 a4 : Value} (h : b ≠ b') : (set5 w b a0 a1 a2 a3 a4).heap[b']? = w.heap[b']? := by
  unfold set5
  rw [heap_set_other h, heap_set_other h, heap_set_other h, heap_set_other h, heap_set_other h]
theorem set5_size {w : World} {b : Nat} {a0 a1 a2 a3 a4 : Value} : (set5 w b a0 a1 a2 a3 a4).heap.size = w.heap.size := by simp [set5]
theorem Ext.set5 {w wr : World} (h : Ext w wr) {b : Nat} {a0 a1 a2 a3 a4 : Value} (hb : w.heap.size ≤ b) : Ext w (Qxb6618064a.set5 wr b a0 a1 a2 a3 a4) := by
  unfold Qxb6618064a.set5
  iterate 5 refine Ext.setCell ?_ hb _
  exact h
theorem set5_same {w : World} {b : Nat} {a0 a1 a2 a3 a4 b0 b1 b2 b3 b4 : Value} (h : w.heap[b]? = some (.cells #[b0, b1, b2, b3, b4] 27 (0, 0))) : (set5 w b a0 a1 a2 a3 a4).heap[b]? = some (.cells #[a0, a1, a2, a3, a4] 27 (0, 0)) := by
  unfold set5
  rw [heap_set_same (heap_set_same (heap_set_same (heap_set_same (heap_set_same h))))]
  simp
theorem rec_end {w wr W0 : World} {p g m cap : Nat} {L : List A2} (hW : w.alloc zero27 = W0) (h : LogAt w p g m cap L) (hE : Ext W0 wr) {n s : Nat} (hn : L.length = n) (hs : s = sumW L) (a0 a1 a2 a3 a4 : Value) :
    RecPost w ((set5 wr w.heap.size a0 a1 a2 a3 a4).alloc (.cells #[.slice (some ⟨g, 0, none⟩) n cap, .map (some m)] 53)).drew g m cap L (.returned (recV wr.heap.size n n s s)) := by
  subst hW hs hn
  have hs0 : (w.alloc zero27).heap.size = w.heap.size + 1 := by simp
  have hs1 := hE.size
  have hEw : Ext w wr := ((Ext.refl w).alloc zero27).trans hE
  have hE5 : Ext w (set5 wr w.heap.size a0 a1 a2 a3 a4) := hEw.set5 (Nat.le_refl _)
  refine ⟨wr.heap.size, rfl, ?_, (hE5.alloc _).drew, by omega⟩
  have h1 := (h.ext (hE5.alloc (.cells #[.slice (some ⟨g, 0, none⟩) L.length cap, .map (some m)] 53))).ext (Ext.refl _).drew
  refine ⟨?_, h1.buf, h1.mp, h1.le, h1.cm⟩
  have := heap_alloc_new (set5 wr w.heap.size a0 a1 a2 a3 a4) (.cells #[.slice (some ⟨g, 0, none⟩) L.length cap, .map (some m)] 53)
  rw [set5_size] at this
  exact this

set_option maxHeartbeats 2000000 in
theorem records_any (p g m cap : Nat) (L : List A2) (w : World) (h : LogAt w p g m cap L) (hL : L ≠ []) (hn : L.length ≤ 400000) (hS : Small L) :
    Calls Try.prog 25 #[.pointer (some ⟨p, 0, none⟩)] w fun e w' => RecPost w w' g m cap L e := by
  have HLg : Hid _ := h
  have hE0 : Ext w (w.alloc zero27) := (Ext.refl w).alloc _
  have hz := heap_alloc_new w zero27
  have h0 := h.ext hE0
  have hpos : 0 < L.length := List.length_pos_iff.2 hL
  obtain ⟨c0, c1, cf⟩ := h0.cells
  have hlt := h0.lt.1
  have HS : Hid _ := hS
  clear h hL hS
  generalize hln : L.length = n at *
  have HN : Hid _ := hln
  clear hln
  have hnz : ((n : Int) == 0) = false := by simp; omega
  go_enter Try.func25, Try.ntmps25
  go_upto_region 1 with fail
  change Code.wp _ _ _ _ (w.alloc zero27)
  generalize hW0 : w.alloc zero27 = W0 at *
  have HW0 : Hid _ := hW0
  have HZ : Hid _ := hz
  have H0 : Hid _ := h0
  clear hW0 hz h0
  go_wp2
  go_loopw [18, 3] (fun v18 v3 wr => ∃ k r : Nat, k ≤ n ∧ v18 = .int .i64 k ∧ v3 = .int .i64 r ∧ r ≤ 100000000 ∧ Ext W0 wr ∧ Hid (r = sumW (L.take k))) (fun v18 _ _ => n - (intOf v18).toNat)
  case atStart => exact ⟨0, 0, by omega, rfl, rfl, by omega, Ext.refl _, show 0 = sumW (L.take 0) from rfl⟩
  case round =>
    obtain ⟨k, r, hk, rfl, rfl, hr, hE, hq⟩ := hrel
    obtain ⟨c0', c1', cf'⟩ := (H0.out.ext hE).cells
    rw [HN.out] at c0'
    have hlt' := (H0.out.ext hE).lt
    by_cases hlt : k < n
    · have hx : L[k]? = some (L[k]'(by rw [HN.out]; exact hlt)) := List.getElem?_eq_getElem _
      generalize L[k]'(by rw [HN.out]; exact hlt) = x at hx
      obtain ⟨a0, a1⟩ := (H0.out.ext hE).buf.cell hx
      obtain ⟨x1, x2⟩ := HS.out.1 x (List.mem_of_getElem? hx)
      have hst := sumW_take hx
      have hle := sumW_le (l := L) (k + 1)
      have HX : Hid (sumW (L.take (k + 1)) = r + wt1 x ∧ r + wt1 x ≤ 100000000) := ⟨by rw [hst, hq.out], by rw [hq.out]; have := HS.out.2; omega⟩
      have h1 : wt1 x + r ≤ 100000000 := by have := HX.out.2; omega
      have hEa : Ext W0 (wr.alloc (box2 56 x)) := hE.alloc _
      clear hx hst hle
      go_wp2_with (go_at_call 30; refine (heldSize_any x _ x1 x2).mono ?_; rintro e w1 ⟨rfl, hE1⟩)
      go_wp2
      go_roundw
      case rel =>
        refine ⟨k + 1, r + wt1 x, by omega, by go_num, ?_, HX.out.2, hEa.trans hE1, HX.out.1.symm⟩
        first | (congr 1; done) | (congr 1; omega) | go_num
      case measure => simp [intOf]; omega
    · have hzz := (hE.block _ (Array.getElem?_eq_some_iff.1 HZ.out).1).trans HZ.out
      obtain ⟨z0, z1, z2, z3, z4, zf, zl⟩ := cells27 hzz
      have hpw : p ≠ w.heap.size := by have := HLg.out.lt.1; omega
      clear hzz
      go_wp2
      go_big_region
      have hfin := rec_end (wr := wr) HW0.out HLg.out hE HN.out (s := r) (by rw [hq.out, show k = L.length by rw [HN.out]; omega, List.take_length]) (.pointer (some ⟨wr.heap.size, 0, none⟩)) (.int .i64 n) (.int .i64 n) (.int .i64 r) (.int .i64 r)
      have HF : Hid _ := hfin
      clear hfin
      go_wp2
      exact bodyPost_ret (v := recV wr.heap.size n n r r) (by simp [results, Try.results25, go_sem, z0, z1, z2, z3, z4, zl]) rfl HF.out
end Go.Proofs.Qxb6618064a
