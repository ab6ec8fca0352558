/- slices.Compact at ring.ID. -/
import Derived.Test.Qxb6618031aSort2
import Derived.Lib.SliceRun
set_option linter.unusedVariables false
namespace Go.Proofs.Qxb6618031a
open Go.RowKit Go.Sort Go.Shelf Go.Lib

/-- of the first j elements each that is not its neighbour's like -/
def comp (Z : Nat → W3) : Nat → List W3
  | 0 => []
  | j + 1 => if j = 0 ∨ Z j ≠ Z (j - 1) then comp Z j ++ [Z j] else comp Z j
theorem comp_len (Z : Nat → W3) : ∀ j, (comp Z j).length ≤ j
  | 0 => Nat.le_refl _
  | j + 1 => by
    have := comp_len Z j
    unfold comp
    split
    · simp; omega
    · omega
theorem comp_keep {Z : Nat → W3} {j : Nat} (h : j = 0 ∨ Z j ≠ Z (j - 1)) : comp Z (j + 1) = comp Z j ++ [Z j] := by rw [comp, if_pos h]
theorem comp_drop {Z : Nat → W3} {j : Nat} (h0 : 0 < j) (h : Z j = Z (j - 1)) : comp Z (j + 1) = comp Z j := by
  rw [comp, if_neg]
  rintro (h' | h')
  · omega
  · exact h' h
/-- no two neighbours alike: all are kept -/
theorem comp_all {Z : Nat → W3} : ∀ j, (∀ i, 0 < i → i < j → Z i ≠ Z (i - 1)) → comp Z j = (List.range j).map Z
  | 0, _ => by simp [comp]
  | j + 1, h => by
    have ih := comp_all j (fun i h0 hi => h i h0 (by omega))
    rw [comp_keep (by by_cases h0 : j = 0; exact Or.inl h0; exact Or.inr (h j (by omega) (by omega))), ih, List.range_succ, List.map_append]
    rfl

/-- Block g begins with n identifiers, the i-th f i; none frozen. -/
def BufF (w : World) (g n : Nat) (f : Nat → W3) : Prop := ∃ c : Array Value, w.heap[g]? = some (.cells c 30 (0, 0)) ∧ n * 3 ≤ c.size ∧
  ∀ i, i < n → c[i * 3]? = some (.int .u64 (f i).1) ∧ c[i * 3 + 1]? = some (.int .u64 (f i).2.1) ∧ c[i * 3 + 2]? = some (.int .u64 (f i).2.2)
theorem BufF.lt {w : World} {g n : Nat} {f : Nat → W3} (h : BufF w g n f) : g < w.heap.size := by
  obtain ⟨c, hc, _⟩ := h
  exact (Array.getElem?_eq_some_iff.1 hc).1
theorem BufF.cell {w : World} {g n : Nat} {f : Nat → W3} (h : BufF w g n f) {i : Nat} (hi : i < n) :
    w.cell? ⟨g, i * 3, none⟩ = some (.int .u64 (f i).1) ∧ w.cell? ⟨g, i * 3 + 1, none⟩ = some (.int .u64 (f i).2.1) ∧ w.cell? ⟨g, i * 3 + 2, none⟩ = some (.int .u64 (f i).2.2) := by
  obtain ⟨c, hc, _, h3⟩ := h
  simp only [World.cell?, hc]
  exact h3 i hi
theorem BufF.frozen {w : World} {g n : Nat} {f : Nat → W3} (h : BufF w g n f) (o : Nat) : w.frozen? ⟨g, o, none⟩ = false := by
  obtain ⟨c, hc, _⟩ := h
  simp [World.frozen?, hc]
theorem BufF.ext {w w' : World} {g n : Nat} {f : Nat → W3} (h : BufF w g n f) (hE : Ext w w') : BufF w' g n f := by
  obtain ⟨c, hc, r⟩ := h
  exact ⟨c, hE.keeps hc, r⟩
theorem BufF.drewN {w : World} {g n : Nat} {f : Nat → W3} (h : BufF w g n f) (t : Nat) : BufF (w.drewN t) g n f := h
theorem BufF.congr {w : World} {g n m : Nat} {f f' : Nat → W3} (h : BufF w g n f) (hm : m ≤ n) (hf : ∀ i, i < m → f i = f' i) : BufF w g m f' := by
  obtain ⟨c, hc, hs, h3⟩ := h
  exact ⟨c, hc, by omega, fun i hi => by rw [← hf i hi]; exact h3 i (by omega)⟩
theorem BufL.fn {w : World} {g : Nat} {l : List W3} (h : BufL w g l) : BufF w g l.length (fun i => l[i]!) := h
theorem BufF.set {w : World} {g n : Nat} {f : Nat → W3} (h : BufF w g n f) (k : Nat) (hk : k < n) (x : W3) :
    BufF (((w.setCell ⟨g, k * 3, none⟩ (.int .u64 x.1)).setCell ⟨g, k * 3 + 1, none⟩ (.int .u64 x.2.1)).setCell ⟨g, k * 3 + 2, none⟩ (.int .u64 x.2.2)) g n (fun i => if i = k then x else f i) := by
  obtain ⟨c, hc, hs, h3⟩ := h
  refine ⟨_, heap_setCell_cells (heap_setCell_cells (heap_setCell_cells hc)), by simp; omega, fun i hi => ?_⟩
  have := h3 i hi
  by_cases hik : i = k
  · subst hik
    simp [Array.getElem?_setIfInBounds]
    refine ⟨by omega, by omega, by omega⟩
  · simp only [if_neg hik, Array.getElem?_setIfInBounds, Array.size_setIfInBounds]
    rw [if_neg (by omega), if_neg (by omega), if_neg (by omega), if_neg (by omega), if_neg (by omega), if_neg (by omega), if_neg (by omega), if_neg (by omega), if_neg (by omega)]
    exact this
/-- stores behind the first n elements -/
theorem BufF.setCells {g n : Nat} {f : Nat → W3} : ∀ (vs : List Value) (o : Nat) (w : World), BufF w g n f → n * 3 ≤ o → BufF (w.setCells g o vs) g n f
  | [], _, _, h, _ => h
  | v :: r, o, w, h, ho => by
    refine BufF.setCells r (o + 1) _ ?_ (by omega)
    obtain ⟨c, hc, hs, h3⟩ := h
    refine ⟨_, heap_setCell_cells hc, by simpa using hs, fun i hi => ?_⟩
    simp only [Array.getElem?_setIfInBounds]
    rw [if_neg (by omega), if_neg (by omega), if_neg (by omega)]
    exact h3 i hi
theorem grownBy_setCell {a w : World} {g : Nat} (h : a.grownBy w (some g)) (o : Nat) (v : Value) : a.grownBy (w.setCell ⟨g, o, none⟩ v) (some g) :=
  ⟨h.os, h.tape, h.output, by simpa using h.size, fun k hk hr => by rw [Below.heap_setCell _ _ _ _ (fun e => hr (by rw [e]))]; exact h.block k hk hr⟩
theorem grownBy_setCells {a : World} {g : Nat} : ∀ (vs : List Value) (o : Nat) (w : World), a.grownBy w (some g) → a.grownBy (w.setCells g o vs) (some g)
  | [], _, _, h => h
  | v :: r, o, w, h => grownBy_setCells r (o + 1) _ (grownBy_setCell h o v)
theorem grownBy_refl (w : World) (r : Option Nat) : w.grownBy w r := ⟨rfl, rfl, rfl, Nat.le_refl _, fun _ _ _ => rfl⟩
theorem grownBy_drewN {a w : World} {r : Option Nat} (h : a.grownBy w r) (t : Nat) : a.grownBy (w.drewN t) r := ⟨h.os, h.tape, h.output, h.size, h.block⟩

def zeros (n : Nat) : List Value := (Builtin.zeroCells (Value.cells (.agg #[.int .u64 0, .int .u64 0, .int .u64 0])) n).toList
theorem zeroValue30 (w : World) : (zeroValue 30).run Try.prog w = .ok (.agg #[.int .u64 0, .int .u64 0, .int .u64 0]) w := by kernel_rfl
theorem zeros_all (n : Nat) : (zeros n).length = n * 3 ∧ ∀ v ∈ zeros n, v.oneCell' = true := by
  unfold zeros Builtin.zeroCells
  simp only [Value.cells]
  refine ⟨by simp, fun v hv => ?_⟩
  simp only [Array.toList_map, List.mem_map] at hv
  obtain ⟨j, _, rfl⟩ := hv
  rw [show (#[Value.int .u64 0, .int .u64 0, .int .u64 0] : Array Value).size = 3 from rfl, zeros3 (j % 3) (Nat.mod_lt _ (by omega))]
  rfl
theorem run_clear25 (w : World) (ty : TypeId) (b o n c : Nat) (hn : 0 < n) (hc : ∀ j, j < n * 3 → (w.cell? ⟨b, o + j, none⟩).isSome = true) (hf : ∀ j, j < n * 3 → w.frozen? ⟨b, o + j, none⟩ = false) :
    (Builtin.clear_ #[25] ty #[.slice (some ⟨b, o, none⟩) n c]).run Try.prog w = .ok (.tuple #[]) (w.setCells b o (zeros n)) := by
  have hv := zeroValue30
  obtain ⟨hl, h1⟩ := zeros_all n
  have hst := run_storeCells_cells (P := Try.prog) b o (zeros n) 0 w (by rw [hl]; simpa using hc) (by rw [hl]; simpa using hf) h1
  simp only [Nat.add_zero] at hst
  obtain ⟨m, rfl⟩ : ∃ m, n = m + 1 := ⟨n - 1, by omega⟩
  unfold zeros at *
  simp [Builtin.clear_, run_underlying Try.underlying25, hv, hst]

/-- what the inner loop keeps -/
structure CI (Z : Nat → W3) (n J kk : Nat) (f : Nat → W3) : Prop where
  len : kk = (comp Z J).length
  lt : kk + 1 ≤ J
  low : ∀ i, i < kk → f i = (comp Z J)[i]!
  high : ∀ i, J - 1 ≤ i → i < n → f i = Z i
theorem CI.start {Z : Nat → W3} {n k : Nat} (hk : 1 ≤ k) (hall : ∀ i, 0 < i → i < k → Z i ≠ Z (i - 1)) (e : Z k = Z (k - 1)) : CI Z n (k + 1) k Z := by
  have hc : comp Z (k + 1) = (List.range k).map Z := by rw [comp_drop (by omega) e, comp_all k hall]
  refine ⟨by rw [hc]; simp, by omega, fun i hi => ?_, fun i _ _ => rfl⟩
  rw [hc, getElem!_pos _ i (by simpa using hi)]
  simp
theorem CI.skip {Z : Nat → W3} {n J kk : Nat} {f : Nat → W3} (h : CI Z n J kk f) (h0 : 0 < J) (e : Z J = Z (J - 1)) : CI Z n (J + 1) kk f := by
  have hc := comp_drop h0 e
  exact ⟨by rw [hc]; exact h.len, by have := h.lt; omega, fun i hi => by rw [hc]; exact h.low i hi, fun i h1 h2 => h.high i (by omega) h2⟩
theorem CI.keep {Z : Nat → W3} {n J kk : Nat} {f : Nat → W3} (h : CI Z n J kk f) (e : Z J ≠ Z (J - 1)) : CI Z n (J + 1) (kk + 1) (fun i => if i = kk then Z J else f i) := by
  have hc : comp Z (J + 1) = comp Z J ++ [Z J] := comp_keep (Or.inr e)
  have hlen := h.len
  have hlt := h.lt
  refine ⟨by rw [hc]; simp; omega, by omega, fun i hi => ?_, fun i h1 h2 => ?_⟩
  · rw [hc]
    by_cases hik : i = kk
    · rw [if_pos hik, getElem!_pos _ i (by simp; omega), List.getElem_append_right (by omega)]
      simp
    · rw [if_neg hik, h.low i (by omega), getElem!_pos _ i (by omega), getElem!_pos _ i (by simp; omega), List.getElem_append_left (by omega)]
  · show (if i = kk then Z J else f i) = _
    rw [if_neg (by omega)]
    exact h.high i (by omega) h2

/-- what Compact leaves: the same block, its head the list without neighbouring doubles -/
def CompPost (w w' : World) (g cap : Nat) (Z : Nat → W3) (n : Nat) (e : Ending) : Prop :=
  e = .returned (.slice (some ⟨g, 0, none⟩) (comp Z n).length cap) ∧ BufF w' g (comp Z n).length (fun i => (comp Z n)[i]!) ∧ w.grownBy w' (some g)

set_option maxHeartbeats 4000000 in
theorem compact_any (g cap n : Nat) (Z : Nat → W3) (w : World) (hF : BufF w g n Z) (hlen : n ≤ 1000000) (hl0 : 0 < n) (hcap : n ≤ cap) (hcapm : cap ≤ 9223372036854775807) :
    Calls Try.prog 29 #[.slice (some ⟨g, 0, none⟩) n cap] w fun e w' => CompPost w w' g cap Z n e := by
  have e30 := eql30
  have n30 := neq30
  have g30 := guard30
  have whole : Hid (∀ t, (∀ i, 0 < i → i < n → Z i ≠ Z (i - 1)) → CompPost w (w.drewN t) g cap Z n (.returned (.slice (some ⟨g, 0, none⟩) n cap))) := by
    show ∀ t, _
    intro t h
    have hc := comp_all n h
    unfold CompPost
    rw [hc]
    refine ⟨by simp, ?_, grownBy_drewN (grownBy_refl _ _) _⟩
    rw [List.length_map, List.length_range]
    refine (hF.drewN t).congr (Nat.le_refl _) (fun i hi => ?_)
    rw [getElem!_pos _ i (by simpa using hi)]
    simp
  by_cases h2 : n < 2
  · go_enter Try.func29, Try.ntmps29
    go_wp2
    go_ret
    exact whole.out 0 (fun i h0 hi => by omega)
  · go_enter Try.func29, Try.ntmps29
    go_wp2
    go_loopw [3] (fun v wr => ∃ k t : Nat, 1 ≤ k ∧ k ≤ n ∧ v = .int .i64 k ∧ wr = w.drewN t ∧ ∀ i, 0 < i → i < k → Z i ≠ Z (i - 1)) (fun v _ => n - (intOf v).toNat)
    case atStart => exact ⟨1, 0, by omega, by omega, rfl, rfl, fun i h0 hi => by omega⟩
    case round =>
      obtain ⟨k, t, hk1, hk, rfl, rfl, hall⟩ := hrel
      have HA : Hid _ := hall
      clear hall
      by_cases hlt : k < n
      · obtain ⟨x0, x1, x2⟩ := hF.cell (i := k) hlt
        obtain ⟨y0, y1, y2⟩ := hF.cell (i := k - 1) (by omega)
        by_cases hdup : Z k = Z (k - 1)
        · have he : eq3 (Z k) (Z (k - 1)) = true := (eq3_iff _ _).2 hdup
          have HD : Hid _ := hdup
          clear hdup
          go_wp2
          go_quiet (fail)
          have hkc : ¬ cap = k := by omega
          go_wp2
          clear x0 x1 x2 y0 y1 y2 he
          go_loopw [5, 3] (fun v5 v3 wr => ∃ (kk k2 : Nat) (f : Nat → W3), v3 = .int .i64 kk ∧ v5 = .int .i64 k2 ∧ 1 ≤ k2 ∧ k + k2 ≤ n ∧ w.grownBy wr (some g) ∧ BufF wr g n f ∧ CI Z n (k + k2) kk f) (fun v5 _ _ => n - (intOf v5).toNat)
          case atStart => exact ⟨k, 1, Z, rfl, rfl, Nat.le_refl _, by omega, grownBy_drewN (grownBy_refl _ _) _, hF.drewN _, CI.start hk1 HA.out HD.out⟩
          case round =>
            obtain ⟨kk, k2, f, rfl, rfl, h1, hle, hg, hB, hI⟩ := hrel
            have hkk := hI.lt
            have I2 : Hid _ := hI
            by_cases hlt2 : k + k2 < n
            · obtain ⟨x0, x1, x2⟩ := hB.cell (i := k + k2) hlt2
              obtain ⟨y0, y1, y2⟩ := hB.cell (i := k + k2 - 1) (by omega)
              obtain ⟨z0, z1, z2⟩ := hB.cell (i := kk) (by omega)
              have hf := hB.frozen
              rw [hI.high (k + k2) (by omega) hlt2] at x0 x1 x2
              rw [hI.high (k + k2 - 1) (by omega) (by omega)] at y0 y1 y2
              rw [show (k + k2) * 3 = k * 3 + k2 * 3 by omega] at x0 x1 x2
              rw [show (k + k2 - 1) * 3 = k * 3 + (k2 - 1) * 3 by omega] at y0 y1 y2
              clear hI
              by_cases hdup : Z (k + k2) = Z (k + k2 - 1)
              · have he : eq3 (Z (k + k2)) (Z (k + k2 - 1)) = true := (eq3_iff _ _).2 hdup
                have HD2 : Hid _ := hdup
                clear hdup
                go_wp2
                go_quiet (fail)
                go_wp2
                go_roundw
                case rel => exact ⟨kk, k2 + 1, f, rfl, by go_num, by omega, by omega, grownBy_drewN hg _, hB.drewN _, I2.out.skip (by omega) HD2.out⟩
                case measure => simp [intOf]; omega
              · have he : eq3 (Z (k + k2)) (Z (k + k2 - 1)) = false := eq3_false hdup
                have HD2 : Hid _ := hdup
                clear hdup
                go_wp2
                go_quiet (fail)
                go_wp2
                go_roundw
                case rel => exact ⟨kk + 1, k2 + 1, _, by go_num, by go_num, by omega, by omega, grownBy_setCell (grownBy_setCell (grownBy_setCell (grownBy_drewN hg _) _ _) _ _) _ _, (hB.drewN _).set kk (by omega) (Z (k + k2)), I2.out.keep HD2.out⟩
                case measure => simp [intOf]; omega
            · have hend : k + k2 = n := by omega
              have hkc : ¬ cap = kk := by omega
              have hcl : ∀ ty, (Builtin.clear_ #[25] ty #[.slice (some ⟨g, kk * 3, none⟩) (n - kk) (cap - kk)]).run Try.prog wr = .ok (.tuple #[]) (wr.setCells g (kk * 3) (zeros (n - kk))) := fun ty => by
                refine run_clear25 wr ty g (kk * 3) (n - kk) (cap - kk) (by omega) (fun j hj => ?_) (fun j hj => hB.frozen _)
                obtain ⟨c, hc, hs, _⟩ := hB
                simp only [World.cell?, hc]
                rw [if_neg (by simp), Array.getElem?_eq_getElem (by omega)]
                rfl
              have HE : Hid _ := hend
              clear hI hend
              go_wp2
              go_ret
              have hI := I2.out
              rw [HE.out] at hI
              have hB2 : BufF wr g kk (fun i => (comp Z n)[i]!) := hB.congr (by omega) (fun i hi => hI.low i hi)
              unfold CompPost
              rw [← hI.len]
              exact ⟨rfl, BufF.setCells _ _ _ hB2 (Nat.le_refl _), grownBy_setCells _ _ _ hg⟩
        · have he : eq3 (Z k) (Z (k - 1)) = false := eq3_false hdup
          have HD : Hid _ := hdup
          clear hdup
          go_wp2
          go_quiet (fail)
          go_wp2
          go_roundw
          case rel =>
            refine ⟨k + 1, _, by omega, by omega, by go_num, rfl, fun i h0 hi => ?_⟩
            by_cases hik : i < k
            · exact HA.out i h0 hik
            · obtain rfl : i = k := by omega
              exact HD.out
          case measure => simp [intOf]; omega
      · obtain rfl : k = n := by omega
        go_wp2
        go_ret
        exact whole.out _ HA.out
end Go.Proofs.Qxb6618031a
