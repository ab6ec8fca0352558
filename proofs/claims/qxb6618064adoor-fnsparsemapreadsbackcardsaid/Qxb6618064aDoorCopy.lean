/- toHR, cloneRegs: a row copied. -/
import Derived.Test.Qxb6618064aDoorRow
set_option linter.unusedVariables false
namespace Go.Proofs.Qxb6618064aDoor
open Go.RowKit Go.Sort

def made2 (n : Nat) : Array Value := madeCells (Value.cells (.agg #[.int .i64 0, .int .i64 0])) (n * 2)
theorem made2_size (n : Nat) : (made2 n).size = n * 2 := by unfold made2; exact size_madeCells _ _
theorem made2_get (n i : Nat) (hi : i < n * 2) : (made2 n)[i]? = some (.int .i64 0) := by
  unfold made2 madeCells
  simp only [Value.cells, Array.getElem?_map, Array.getElem?_range, hi, if_true, Option.map_some, Option.some.injEq]
  have : i % 2 < 2 := Nat.mod_lt _ (by omega)
  have h2 : ∀ j, j < 2 → (#[Value.int .i64 0, .int .i64 0] : Array Value)[j]! = .int .i64 0 := fun j h => by
    match j, h with
    | 0, _ => rfl
    | 1, _ => rfl
  exact h2 _ this
theorem info33 : (Tryd.prog.info? 33).map (fun i => (i.zero, i.size, i.bytes)) = some (some (.agg #[.int .i64 0, .int .i64 0]), 2, 16) := by kernel_rfl
theorem info48 : (Tryd.prog.info? 48).map (fun i => (i.zero, i.size, i.bytes)) = some (some (.agg #[.int .i64 0, .int .i64 0]), 2, 16) := by kernel_rfl
theorem run_make29 (n : Nat) (hn : n ≤ 1000000) (w : World) : (Instr.makeSlice 29 (.int .i64 n) (.int .i64 n)).run Tryd.prog w = .ok (.slice (some ⟨w.heap.size, 0, none⟩) n n) (w.alloc (.cells (made2 n) 33)) := by
  obtain ⟨i, hi, hz, hs, hb⟩ := info_parts info33
  have := run_make (P := Tryd.prog) w 29 33 i _ Tryd.underlying29 hi hz .i64 .i64 n n (by omega) (by omega) (by rw [hb]; omega) (by omega)
  rw [hs] at this
  exact this
theorem run_make35 (n : Nat) (hn : n ≤ 1000000) (w : World) : (Instr.makeSlice 35 (.int .i64 n) (.int .i64 n)).run Tryd.prog w = .ok (.slice (some ⟨w.heap.size, 0, none⟩) n n) (w.alloc (.cells (made2 n) 48)) := by
  obtain ⟨i, hi, hz, hs, hb⟩ := info_parts info48
  have := run_make (P := Tryd.prog) w 35 48 i _ Tryd.underlying35 hi hz .i64 .i64 n n (by omega) (by omega) (by rw [hb]; omega) (by omega)
  rw [hs] at this
  exact this
/-- a row being filled: room for cap, all of it strings, the first k of them l's -/
def Fill (T : TypeId) (w : World) (b cap k : Nat) (l : List A2) : Prop := BufA T w b cap (l.take k) ∧ ∀ i, i < cap * 2 → ∃ s, w.cell? ⟨b, i, none⟩ = some (.int .i64 s)
theorem Fill.made (T : TypeId) (w : World) (n : Nat) (l : List A2) : Fill T (w.alloc (.cells (made2 n) T)) w.heap.size n 0 l := by
  have hb : (w.alloc (.cells (made2 n) T)).heap[w.heap.size]? = some (.cells (made2 n) T (0, 0)) := by show (w.heap.push _)[w.heap.size]? = _; simp
  refine ⟨⟨made2 n, hb, made2_size n, fun i x hx => by simp at hx⟩, fun i hi => ⟨0, ?_⟩⟩
  have : (w.alloc (.cells (made2 n) T)).cell? ⟨w.heap.size, i, none⟩ = (made2 n)[i]? := by
    unfold World.cell?
    simp only [hb]
    rfl
  rw [this]
  exact made2_get n i hi
theorem Fill.ext {T : TypeId} {w w' : World} {b cap k : Nat} {l : List A2} (h : Fill T w b cap k l) (hE : Ext w w') : Fill T w' b cap k l := by
  refine ⟨h.1.ext hE, fun i hi => ?_⟩
  obtain ⟨s, hs⟩ := h.2 i hi
  exact ⟨s, (hE.cells.1 _ _ h.1.lt).trans hs⟩
theorem Fill.set {T : TypeId} {w : World} {b cap k : Nat} {l : List A2} (h : Fill T w b cap k l) (hk : k < cap) {x : A2} (hx : l[k]? = some x) : Fill T (set2 w b k x) b cap (k + 1) l := by
  have hkl : k < l.length := (List.getElem?_eq_some_iff.1 hx).1
  refine ⟨h.1.put hk x fun i y hy => ?_, fun i hi => ?_⟩
  · rw [List.getElem?_take] at hy
    split at hy
    · by_cases hik : i = k
      · left
        rw [hik, hx] at hy
        injection hy with hy
        exact ⟨hik, hy.symm⟩
      · right
        refine ⟨hik, ?_⟩
        rw [List.getElem?_take, if_pos (by omega)]
        exact hy
    · cases hy
  · obtain ⟨c, hc, hs, _⟩ := h.1
    have hnew := heap_set_same (o := k * 2 + 1) (v := .int .i64 x.2) (heap_set_same (o := k * 2) (v := .int .i64 x.1) hc)
    obtain ⟨s, hs'⟩ := h.2 i hi
    have hci : c[i]? = some (.int .i64 s) := by simpa [World.cell?, hc] using hs'
    have hcell : (set2 w b k x).cell? ⟨b, i, none⟩ = ((c.setIfInBounds (k * 2) (.int .i64 x.1)).setIfInBounds (k * 2 + 1) (.int .i64 x.2))[i]? := by
      show (((w.setCell ⟨b, k * 2, none⟩ (.int .i64 x.1)).setCell ⟨b, k * 2 + 1, none⟩ (.int .i64 x.2))).cell? ⟨b, i, none⟩ = _
      simp [World.cell?, hnew]
    rw [hcell]
    simp only [Array.getElem?_setIfInBounds, Array.size_setIfInBounds, hs]
    by_cases h1 : k * 2 + 1 = i
    · exact ⟨x.2, by rw [if_pos h1, if_pos (by omega)]⟩
    · by_cases h2 : k * 2 = i
      · exact ⟨x.1, by rw [if_neg h1, if_pos h2, if_pos (by omega)]⟩
      · exact ⟨s, by rw [if_neg h1, if_neg h2]; exact hci⟩

set_option maxHeartbeats 1000000 in
theorem toHR_some (a : Addr) (n cap : Nat) (l : List A2) (w : World) (hn : n ≤ 200000) (hl : l.length = n) (hR : RowO w (some a) l) :
    Calls Tryd.prog 15 #[.slice (some a) n cap] w
      fun e w' => e = .returned (.slice (some ⟨w.heap.size, 0, none⟩) n n) ∧ Ext w w' ∧ BufA 48 w' w.heap.size n l := by
  have hmk := run_make35 n (by omega)
  have HL : Hid _ := hl
  clear hl
  have hnl := fun w a n c => Lib.run_eql_slice_nil (P := Tryd.prog) w 29 33 a n c 0 0 Tryd.underlying29
  go_enter Tryd.func15, Tryd.ntmps15
  go_wp2
  go_loopw [4] (fun i wr => ∃ k : Nat, k ≤ n ∧ i = .int .i64 k ∧ Ext w wr ∧ Fill 48 wr w.heap.size n k l) (fun i _ => n - (intOf i).toNat)
  case atStart => exact ⟨0, by omega, rfl, (Ext.refl _).alloc _, Fill.made 48 w n l⟩
  case round =>
    obtain ⟨k, hk, rfl, hE, hF⟩ := hrel
    clear hmk
    try clear hnl
    by_cases hlt : k < n
    · obtain ⟨b, off, x, e, hRr, hx⟩ := (hR.ext hE).get (i := k) (by rw [HL.out]; exact hlt)
      injection e with e
      subst e
      obtain ⟨a0, a1⟩ := hRr.2 k x hx
      have hwb := hRr.1
      obtain ⟨s0, c0⟩ := hF.2 (k * 2) (by omega)
      obtain ⟨s1, c1⟩ := hF.2 (k * 2 + 1) (by omega)
      have hf := hF.1.frozen
      have hfl := hF.1.lt
      go_wp2
      go_big_region
      go_wp2
      go_roundw
      case rel => exact ⟨k + 1, by omega, by go_num, ((hE.setCell (Nat.le_refl _) _).setCell (Nat.le_refl _) _).drew, (hF.set hlt hx).ext (Ext.refl _).drew⟩
      case measure => simp [intOf]; omega
    · go_wp2
      go_ret
      refine ⟨rfl, hE, ?_⟩
      have := hF.1
      rw [show k = l.length by rw [HL.out]; omega, List.take_length] at this
      exact this
set_option maxHeartbeats 1000000 in
theorem toHR_nil (w : World) :
    Calls Tryd.prog 15 #[.slice none 0 0] w fun e w' => e = .returned (.slice none 0 0) ∧ Ext w w' := by
  have hnl := fun w a n c => Lib.run_eql_slice_nil (P := Tryd.prog) w 29 33 a n c 0 0 Tryd.underlying29
  go_enter Tryd.func15, Tryd.ntmps15
  go_wp2
  go_ret
  exact ⟨rfl, Ext.refl _⟩

set_option maxHeartbeats 1000000 in
theorem clone_some (a : Addr) (n cap : Nat) (l : List A2) (w : World) (hn : n ≤ 200000) (hl : l.length = n) (hR : RowO w (some a) l) :
    Calls Tryd.prog 14 #[.slice (some a) n cap] w
      fun e w' => e = .returned (.slice (some ⟨w.heap.size, 0, none⟩) n n) ∧ Ext w w' ∧ BufA 33 w' w.heap.size n l := by
  have hmk := run_make29 n (by omega)
  have HL : Hid _ := hl
  clear hl
  have hnl := fun w a n c => Lib.run_eql_slice_nil (P := Tryd.prog) w 29 33 a n c 0 0 Tryd.underlying29
  go_enter Tryd.func14, Tryd.ntmps14
  go_wp2
  go_loopw [4] (fun i wr => ∃ k : Nat, k ≤ n ∧ i = .int .i64 k ∧ Ext w wr ∧ Fill 33 wr w.heap.size n k l) (fun i _ => n - (intOf i).toNat)
  case atStart => exact ⟨0, by omega, rfl, (Ext.refl _).alloc _, Fill.made 33 w n l⟩
  case round =>
    obtain ⟨k, hk, rfl, hE, hF⟩ := hrel
    clear hmk
    try clear hnl
    by_cases hlt : k < n
    · obtain ⟨b, off, x, e, hRr, hx⟩ := (hR.ext hE).get (i := k) (by rw [HL.out]; exact hlt)
      injection e with e
      subst e
      obtain ⟨a0, a1⟩ := hRr.2 k x hx
      have hwb := hRr.1
      obtain ⟨s0, c0⟩ := hF.2 (k * 2) (by omega)
      obtain ⟨s1, c1⟩ := hF.2 (k * 2 + 1) (by omega)
      have hf := hF.1.frozen
      have hfl := hF.1.lt
      go_wp2
      go_roundw
      case rel => exact ⟨k + 1, by omega, by go_num, (hE.setCell (Nat.le_refl _) _).setCell (Nat.le_refl _) _, hF.set hlt hx⟩
      case measure => simp [intOf]; omega
    · go_wp2
      go_ret
      refine ⟨rfl, hE, ?_⟩
      have := hF.1
      rw [show k = l.length by rw [HL.out]; omega, List.take_length] at this
      exact this
set_option maxHeartbeats 1000000 in
theorem clone_nil (w : World) :
    Calls Tryd.prog 14 #[.slice none 0 0] w fun e w' => e = .returned (.slice none 0 0) ∧ Ext w w' := by
  have hnl := fun w a n c => Lib.run_eql_slice_nil (P := Tryd.prog) w 29 33 a n c 0 0 Tryd.underlying29
  go_enter Tryd.func14, Tryd.ntmps14
  go_wp2
  go_ret
  exact ⟨rfl, Ext.refl _⟩
end Go.Proofs.Qxb6618064aDoor
