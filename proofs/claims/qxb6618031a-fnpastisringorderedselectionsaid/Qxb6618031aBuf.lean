/- Rows of ring.ID that the call itself has made. -/
import Derived.Test.Qxb6618031aSmall
namespace Go.Proofs.Qxb6618031a
open Go.RowKit Go.Sort

def made3 (n : Nat) : Array Value := madeCells (Value.cells (.agg #[.int .u64 0, .int .u64 0, .int .u64 0])) (n * 3)
theorem info30 : (Try.prog.info? 30).map (fun i => (i.zero, i.size, i.bytes)) = some (some (.agg #[.int .u64 0, .int .u64 0, .int .u64 0]), 3, 24) := by kernel_rfl

theorem run_make25 (n : Nat) (hn : n ≤ 1000000) (w : World) : (Instr.makeSlice 25 (.int .i64 n) (.int .i64 n)).run Try.prog w = .ok (.slice (some ⟨w.heap.size, 0, none⟩) n n) (w.alloc (.cells (made3 n) 30)) := by
  obtain ⟨i, hi, hz, hs, hb⟩ := info_parts info30
  have := run_make (P := Try.prog) w 25 30 i _ Try.underlying25 hi hz .i64 .i64 n n (by omega) (by omega) (by rw [hb]; omega) (by omega)
  rw [hs] at this
  exact this

theorem made3_size (n : Nat) : (made3 n).size = n * 3 := by unfold made3; exact size_madeCells _ _
theorem zeros3 (j : Nat) (h : j < 3) : (#[Value.int .u64 0, .int .u64 0, .int .u64 0] : Array Value)[j]! = .int .u64 0 := by
  match j, h with
  | 0, _ => rfl
  | 1, _ => rfl
  | 2, _ => rfl
theorem made3_get (n i : Nat) (hi : i < n * 3) : (made3 n)[i]? = some (.int .u64 0) := by
  unfold made3 madeCells
  simp only [Value.cells, Array.getElem?_map, Array.getElem?_range, hi, if_true, Option.map_some, Option.some.injEq]
  exact zeros3 (i % 3) (Nat.mod_lt _ (by omega))

/-- Block b is a row of n identifiers, none frozen, the i-th f i. -/
def Buf3 (w : World) (b n : Nat) (f : Nat → W3) : Prop := ∃ c : Array Value, w.heap[b]? = some (.cells c 30 (0, 0)) ∧ c.size = n * 3 ∧
  ∀ i, i < n → c[i * 3]? = some (.int .u64 (f i).1) ∧ c[i * 3 + 1]? = some (.int .u64 (f i).2.1) ∧ c[i * 3 + 2]? = some (.int .u64 (f i).2.2)

theorem Buf3.lt {w : World} {b n : Nat} {f : Nat → W3} (h : Buf3 w b n f) : b < w.heap.size := by
  obtain ⟨c, hc, _⟩ := h
  exact (Array.getElem?_eq_some_iff.1 hc).1
theorem Buf3.made (w : World) (n : Nat) : Buf3 (w.alloc (.cells (made3 n) 30)) w.heap.size n (fun _ => (0, 0, 0)) := by
  refine ⟨made3 n, by show (w.heap.push _)[w.heap.size]? = _; simp, made3_size n, fun i hi => ⟨made3_get n _ (by omega), made3_get n _ (by omega), made3_get n _ (by omega)⟩⟩
theorem Buf3.cell {w : World} {b n : Nat} {f : Nat → W3} (h : Buf3 w b n f) {i : Nat} (hi : i < n) :
    w.cell? ⟨b, i * 3, none⟩ = some (.int .u64 (f i).1) ∧ w.cell? ⟨b, i * 3 + 1, none⟩ = some (.int .u64 (f i).2.1) ∧ w.cell? ⟨b, i * 3 + 2, none⟩ = some (.int .u64 (f i).2.2) := by
  obtain ⟨c, hc, _, h3⟩ := h
  simp [World.cell?, hc, h3 i hi]
theorem Buf3.frozen {w : World} {b n : Nat} {f : Nat → W3} (h : Buf3 w b n f) (o : Nat) : w.frozen? ⟨b, o, none⟩ = false := by
  obtain ⟨c, hc, _, h3⟩ := h
  simp [World.frozen?, hc]
theorem Buf3.ext {w w' : World} {b n : Nat} {f : Nat → W3} (h : Buf3 w b n f) (hE : Ext w w') : Buf3 w' b n f := by
  have hb := h.lt
  obtain ⟨c, hc, r⟩ := h
  exact ⟨c, (hE.block b hb).trans hc, r⟩
theorem Buf3.row {w : World} {b n : Nat} {f : Nat → W3} (h : Buf3 w b n f) : Row3 w b 0 n f := by
  refine ⟨h.lt, fun i hi => ?_⟩
  simpa using h.cell hi
theorem Buf3.congr {w : World} {b n : Nat} {f g : Nat → W3} (h : Buf3 w b n f) (hfg : ∀ i, i < n → f i = g i) : Buf3 w b n g := by
  obtain ⟨c, hc, hs, h3⟩ := h
  exact ⟨c, hc, hs, fun i hi => by rw [← hfg i hi]; exact h3 i hi⟩
theorem heap_setCell_cells {w : World} {b o : Nat} {v : Value} {c : Array Value} {t : TypeId} {fr : Nat × Nat} (h : w.heap[b]? = some (.cells c t fr)) :
    (w.setCell ⟨b, o, none⟩ v).heap[b]? = some (.cells (c.setIfInBounds o v) t fr) := by
  simp [World.setCell, Array.getElem?_modify, h]
theorem Buf3.set {w : World} {b n : Nat} {f : Nat → W3} (h : Buf3 w b n f) (k : Nat) (hk : k < n) (x : W3) :
    Buf3 (((w.setCell ⟨b, k * 3, none⟩ (.int .u64 x.1)).setCell ⟨b, k * 3 + 1, none⟩ (.int .u64 x.2.1)).setCell ⟨b, k * 3 + 2, none⟩ (.int .u64 x.2.2)) b n (fun i => if i = k then x else f i) := by
  obtain ⟨c, hc, hs, h3⟩ := h
  refine ⟨_, heap_setCell_cells (heap_setCell_cells (heap_setCell_cells hc)), by simp [hs], fun i hi => ?_⟩
  have := h3 i hi
  by_cases hik : i = k
  · subst hik
    simp [Array.getElem?_setIfInBounds, hs]
    refine ⟨by omega, by omega, by omega⟩
  · simp only [if_neg hik, Array.getElem?_setIfInBounds, Array.size_setIfInBounds]
    rw [if_neg (by omega), if_neg (by omega), if_neg (by omega), if_neg (by omega), if_neg (by omega), if_neg (by omega), if_neg (by omega), if_neg (by omega), if_neg (by omega)]
    exact this

/-- in every world that a quiet region passes through -/
theorem Buf3.quiet {w : World} {b n : Nat} {f : Nat → W3} (h : Buf3 w b n f) {i : Nat} (hi : i < n) :
  (∀ m os, (grow (w.drewN m) os).cell? ⟨b, i * 3, none⟩ = some (.int .u64 (f i).1)) ∧ (∀ m os, (grow (w.drewN m) os).cell? ⟨b, i * 3 + 1, none⟩ = some (.int .u64 (f i).2.1)) ∧
  (∀ m os, (grow (w.drewN m) os).cell? ⟨b, i * 3 + 2, none⟩ = some (.int .u64 (f i).2.2)) := by
  obtain ⟨h0, h1, h2⟩ := h.cell hi
  exact ⟨cell_grown h.lt h0, cell_grown h.lt h1, cell_grown h.lt h2⟩

set_option maxHeartbeats 1000000 in
theorem toIDs_any (b off n cap : Nat) (Z : Nat → W3) (w : World) (hn : n ≤ 1000000) (hR : Row3 w b off n Z) :
    Calls Try.prog 8 #[.slice (some ⟨b, off, none⟩) n cap] w
      fun e w' => e = .returned (.slice (some ⟨w.heap.size, 0, none⟩) n n) ∧ Ext w w' ∧ Buf3 w' w.heap.size n Z := by
  have hmk := run_make25 n hn
  go_enter Try.func8, Try.ntmps8
  go_wp2
  go_loopw [4] (fun i wr => ∃ k : Nat, k ≤ n ∧ i = .int .i64 k ∧ Ext w wr ∧ Buf3 wr w.heap.size n (fun i => if i < k then Z i else (0, 0, 0))) (fun i _ => n - (intOf i).toNat)
  case atStart => exact ⟨0, by omega, rfl, (Ext.refl _).alloc _, (Buf3.made w n).congr (fun i _ => by simp)⟩
  case round =>
    obtain ⟨k, hk, rfl, hE, hB⟩ := hrel
    clear hmk
    by_cases hlt : k < n
    · obtain ⟨a0, a1, a2⟩ := (hR.ext hE).at (i := k) (by omega)
      have hwb := (hR.ext hE).1
      go_wp2_with (go_at_call 17; refine (zzid_any _ _ _ _).mono ?_; rintro e w1 ⟨rfl, hE1⟩; have hB1 := hB.ext hE1; obtain ⟨c0, c1, c2⟩ := hB1.cell hlt; have hf := hB1.frozen)
      go_roundw
      case rel =>
        refine ⟨k + 1, by omega, by go_num, ((((hE.trans hE1).setCell (Nat.le_refl _) _).setCell (Nat.le_refl _) _).setCell (Nat.le_refl _) _), (hB1.set k hlt (Z k)).congr fun i hi => ?_⟩
        by_cases hik : i = k
        · subst hik; simp
        · by_cases h : i < k
          · rw [if_neg hik, if_pos h, if_pos (by omega)]
          · rw [if_neg hik, if_neg h, if_neg (by omega)]
      case measure => simp [intOf]; omega
    · go_wp2
      go_ret
      exact ⟨rfl, hE, hB.congr (fun i hi => by simp; omega)⟩

end Go.Proofs.Qxb6618031a
