/- sameBytes, startsWithCount. -/
import Derived.Test.Qxb6618064aDoorMap
set_option linter.unusedVariables false
namespace Go.Proofs.Qxb6618064aDoor
open Go.RowKit Go.Sort

/-- the bytes t lie from off on -/
def RowB (w : World) (g off : Nat) (t : List UInt8) : Prop := g < w.heap.size ∧ ∀ j b, t[j]? = some b → w.cell? ⟨g, off + j, none⟩ = some (.int .u8 b.toNat)
theorem RowB.ext {w w' : World} {g off : Nat} {t : List UInt8} (h : RowB w g off t) (hE : Ext w w') : RowB w' g off t :=
  ⟨Nat.lt_of_lt_of_le h.1 hE.size, fun j b hb => (hE.cells.1 _ _ h.1).trans (h.2 j b hb)⟩
theorem RowB.of_below {w w' : World} {g off B : Nat} {t : List UInt8} (h : RowB w g off t) (hB : Below B w w') (hg : g < B) : RowB w' g off t :=
  ⟨Nat.lt_of_lt_of_le h.1 hB.size, fun j b hb => (hB.cell (p := ⟨g, _, none⟩) hg).trans (h.2 j b hb)⟩
theorem RowB.of_own {w : World} {B g cp : Nat} {t : List UInt8} (h : w.ownsRow B 5 1 (.slice (some ⟨g, 0, none⟩) t.length cp) t.length (Lib.byteCells t)) : RowB w g 0 t := by
  have hc := h.cells (g := g) rfl
  refine ⟨?_, fun j b hb => ?_⟩
  · rcases h.2 with ⟨h1, _⟩ | ⟨g', cap, cur, hv, _, hg, _⟩
    · cases h1
    · injection hv with h1
      injection h1 with h1
      injection h1 with h1
      rw [h1]
      exact (Array.getElem?_eq_some_iff.1 hg).1
  · have := hc j (.int .u8 b.toNat) (by simp [Lib.byteCells, hb])
    rw [Addr.add_lit] at this
    simpa using this
theorem u8_inj {a b : UInt8} (h : (a.toNat : Int) = (b.toNat : Int)) : a = b := UInt8.toNat_inj.1 (by omega)

set_option maxHeartbeats 1000000 in
theorem same_any (g g' off off' n cp cp' : Nat) (t : List UInt8) (w : World) (hn : n ≤ 100000000) (hl : t.length = n) (hR : RowB w g off t) (hR' : RowB w g' off' t) :
    Calls Tryd.prog 18 #[.slice (some ⟨g, off, none⟩) n cp, .slice (some ⟨g', off', none⟩) n cp'] w fun e w' => e = .returned (.bool true) ∧ Ext w w' := by
  have HL : Hid _ := hl
  clear hl
  go_enter Tryd.func18, Tryd.ntmps18
  go_wp2
  go_loopw [5] (fun i wr => ∃ k : Nat, k ≤ n ∧ i = .int .i64 k ∧ Ext w wr) (fun i _ => n - (intOf i).toNat)
  case atStart => exact ⟨0, by omega, rfl, Ext.refl _⟩
  case round =>
    obtain ⟨k, hk, rfl, hE⟩ := hrel
    by_cases hlt : k < n
    · have hx : t[k]? = some (t[k]'(by rw [HL.out]; exact hlt)) := List.getElem?_eq_getElem _
      generalize t[k]'(by rw [HL.out]; exact hlt) = x at hx
      have a0 := (hR.ext hE).2 k x hx
      have a1 := (hR'.ext hE).2 k x hx
      have l0 := (hR.ext hE).1
      have l1 := (hR'.ext hE).1
      clear hx
      go_wp2
      go_big_region
      go_wp2
      go_roundw
      case rel => exact ⟨k + 1, by omega, by go_num, hE.drew⟩
      case measure => simp [intOf]; omega
    · go_wp2
      go_ret
      exact ⟨rfl, hE⟩
/-- the digits' array: from i on it holds suf -/
def Dig (W : World) (blk i : Nat) (suf : List UInt8) : Prop := ∃ c T, W.heap[blk]? = some (.cells c T (0, 0)) ∧ c.size = 24 ∧ (∀ j, j < 24 → ∃ z, c[j]? = some (.int .u8 z)) ∧ ∀ j b, suf[j]? = some b → c[i + j]? = some (.int .u8 b.toNat)
theorem Dig.set {W : World} {blk i : Nat} {suf : List UInt8} (h : Dig W blk (i + 1) suf) (hi : i < 24) (d : UInt8) : Dig (W.setCell ⟨blk, i, none⟩ (.int .u8 d.toNat)) blk i (d :: suf) := by
  obtain ⟨c, T, hb, hs, hz, hc⟩ := h
  refine ⟨_, T, heap_set_same hb, by simp [hs], fun j hj => ?_, fun j b hj => ?_⟩
  · by_cases e : i = j
    · subst e
      exact ⟨d.toNat, by simp [hs, hj]⟩
    · obtain ⟨z, hz⟩ := hz j hj
      exact ⟨z, by simp [e, hz]⟩
  · cases j with
    | zero =>
      simp at hj
      subst hj
      simp [hs, hi]
    | succ j =>
      simp at hj
      have := hc j b hj
      rw [show i + (j + 1) = i + 1 + j by omega]
      simp only [Array.getElem?_setIfInBounds]
      rw [if_neg (by omega)]
      exact this
theorem Dig.cell {W : World} {blk i : Nat} {suf : List UInt8} (h : Dig W blk i suf) {j : Nat} (hj : j < 24) : ∃ z, W.cell? ⟨blk, j, none⟩ = some (.int .u8 z) := by
  obtain ⟨c, T, hb, hs, hz, _⟩ := h
  obtain ⟨z, hz⟩ := hz j hj
  exact ⟨z, by simp [World.cell?, hb, hz]⟩
theorem Dig.frozen {W : World} {blk i : Nat} {suf : List UInt8} (h : Dig W blk i suf) (o : Nat) : W.frozen? ⟨blk, o, none⟩ = false := by
  obtain ⟨c, T, hb, _⟩ := h
  simp [World.frozen?, hb]
theorem Dig.lt {W : World} {blk i : Nat} {suf : List UInt8} (h : Dig W blk i suf) : blk < W.heap.size := by
  obtain ⟨c, T, hb, _⟩ := h
  exact (Array.getElem?_eq_some_iff.1 hb).1
theorem Dig.row {W : World} {blk i : Nat} {suf : List UInt8} (h : Dig W blk i suf) : RowB W blk i suf := by
  refine ⟨h.lt, fun j b hj => ?_⟩
  obtain ⟨c, T, hb, _, _, hc⟩ := h
  simp [World.cell?, hb, hc j b hj]
def zero24 : Array Value := Array.replicate 24 (.int .u8 0)
theorem Dig.made (w : World) (T : TypeId) : Dig (w.alloc (.cells zero24 T (0, 0))) w.heap.size 24 [] := by
  refine ⟨zero24, T, heap_alloc_new _ _, by simp [zero24], fun j hj => ⟨0, by simp [zero24, hj]⟩, fun j b h => by simp at h⟩
def CountS (w : World) (N : Nat) (v6 v1 : Value) (W : World) : Prop := ∃ i k : Nat, ∃ suf, v6 = .int .i64 i ∧ v1 = .int .i64 k ∧ Hid (Lib.decDigits N = Lib.decDigits k ++ suf) ∧ Hid (i + suf.length = 24) ∧ Dig W w.heap.size i suf ∧ Ext w W ∧ k ≤ 200000
theorem dec_len (u : Nat) (h : u ≤ 9999999999) : (Lib.decDigits u).length ≤ 21 := by
  have := Lib.itoa_length_le (u : Int) (by omega) (by omega)
  rwa [Lib.itoa_nonneg] at this
theorem dec_small {k : Nat} (h : k < 10) : Lib.decDigits k = [UInt8.ofNat (48 + k)] := Lib.decDigits_one h
theorem dec_big {k : Nat} (h : ¬ k < 10) : Lib.decDigits k = Lib.decDigits (k / 10) ++ [UInt8.ofNat (48 + k % 10)] := by
  rw [Lib.decDigits, dif_neg h]
theorem dig_nat {r : Nat} (h : r < 10) : ((UInt8.ofNat (48 + r)).toNat : Int) = 48 + r := by
  rw [UInt8.toNat_ofNat']
  omega

set_option maxRecDepth 100000 in
set_option maxHeartbeats 400000 in
theorem count_any (g n cp : Nat) (t r : List UInt8) (N : Nat) (w : World) (hn : n ≤ 100000000) (hl : t.length = n) (hR : RowB w g 0 t) (ht : t = Lib.decDigits N ++ (10 : UInt8) :: r) (hN : N ≤ 200000) :
    Calls Tryd.prog 17 #[.slice (some ⟨g, 0, none⟩) n cp, .int .i64 N] w fun e w' => e = .returned (.bool true) ∧ Below w.heap.size w w' := by
  have HL : Hid _ := hl
  have HT : Hid _ := ht
  clear hl ht
  have hdl := dec_len N (by omega)
  go_enter Tryd.func17, Tryd.ntmps17
  go_wp2
  go_loopw [6, 1] (fun v6 v1 W => CountS w N v6 v1 W) (fun _ v1 _ => (intOf v1).toNat)
  case atStart => exact ⟨24, N, [], rfl, rfl, by show _ = _; simp, rfl, Dig.made w _, (Ext.refl _).alloc _, hN⟩
  case round =>
    obtain ⟨i, k, suf, rfl, rfl, hdk, hil, hD, hE, hk2⟩ := hrel
    have hkl : 0 < (Lib.decDigits k).length := by
      rw [Lib.decDigits_length]
      by_cases h : k < 10
      · rw [Lib.nDigits_small h]; omega
      · rw [Lib.nDigits_big h]; omega
    have hsl : suf.length < 21 := by
      have := congrArg List.length hdk.out
      rw [List.length_append] at this
      omega
    obtain ⟨i', hii⟩ : ∃ i', i = i' + 1 := ⟨i - 1, by have := hil.out; omega⟩
    have hi24 : i' < 24 := by have := hil.out; omega
    have e1 : (i : Int) - 1 = i' := by omega
    have HII : Hid _ := hii
    obtain ⟨z, hz⟩ := hD.cell hi24
    have hfz := hD.frozen
    have hlt := hD.lt
    obtain ⟨q, hq⟩ : ∃ q, q = k / 10 := ⟨_, rfl⟩
    obtain ⟨d, hd⟩ : ∃ d, d = k % 10 := ⟨_, rfl⟩
    have hd10 : d < 10 := by omega
    have hq2 : q ≤ 20000 := by omega
    have hqk : q < k ∨ k = 0 := by omega
    have e2 : (k : Int).tmod 10 = d := by rw [hd]; rfl
    have e3 : (k : Int).tdiv 10 = q := by rw [hq]; rfl
    have HQ : Hid _ := hq
    have HDk : Hid _ := hd
    have hi0 : (0 : Int) ≤ (i' : Int) := by omega
    have hi1 : (i' : Int) < 24 := by omega
    have hi2 : (i' : Int) ≤ 24 := by omega
    have hal : Tryd.prog.arrayLen 51 = 24 := by kernel_rfl
    clear hq hd
    have hset := (show Dig wr w.heap.size (i' + 1) suf by rw [← hii]; exact hD).set hi24 (UInt8.ofNat (48 + d))
    rw [dig_nat hd10] at hset
    have hEs : Ext w (wr.setCell ⟨w.heap.size, i', none⟩ (.int .u8 (48 + d))) := hE.setCell (Nat.le_refl _) _
    clear hii
    by_cases hq0 : q = 0
    · subst hq0
      have hk10 : k < 10 := by have := HQ.out; omega
      have HDF : Hid (Lib.decDigits N = UInt8.ofNat (48 + d) :: suf) := by
        show _ = _
        rw [hdk.out, dec_small hk10, HDk.out, Nat.mod_eq_of_lt hk10]
        rfl
      have hsl2 : (UInt8.ofNat (48 + d) :: suf).length = 24 - i' := by have h1 := hil.out; have h2 := HII.out; simp; omega
      go_upto_region 7 with fail
      change Code.wp _ _ _ _ (wr.setCell ⟨w.heap.size, i', none⟩ (.int .u8 (48 + d)))
      generalize wr.setCell ⟨w.heap.size, i', none⟩ (.int .u8 (48 + d)) = W1 at *
      have hrowD := hset.row
      have htl : (24 - i') + 1 ≤ n := by
        have h1 := HL.out
        rw [HT.out, List.length_append, HDF.out, hsl2] at h1
        simp at h1
        omega
      have htl2 : ((24 - i' : Nat) : Int) + 1 ≤ (n : Int) := by omega
      have htl3 : ¬ ((n : Int) < ((24 - i' : Nat) : Int) + 1) := by omega
      have HTJ : Hid (∀ (j : Nat) x, (UInt8.ofNat (48 + d) :: suf)[j]? = some x → t[j]? = some x) := by
        intro j x hj
        rw [HT.out, HDF.out, List.getElem?_append_left (List.getElem?_eq_some_iff.1 hj).1]
        exact hj
      have HTD : Hid (t[24 - i']? = some 10) := by
        show _ = _
        rw [HT.out, HDF.out, List.getElem?_append_right (by omega), hsl2, Nat.sub_self]
        rfl
      have hRW := hR.ext hEs
      have hgl := hRW.1
      have hDl := hrowD.1
      generalize UInt8.ofNat (48 + d) :: suf = ds at *
      have HDL : Hid (ds.length = 24 - i') := hsl2
      clear hset hsl2 HDF
      go_wp2
      go_loopw [8] (fun v8 W => ∃ j : Nat, j ≤ 24 - i' ∧ v8 = .int .i64 j ∧ Ext W1 W) (fun v8 _ => (24 - i') - (intOf v8).toNat)
      case atStart => exact ⟨0, by omega, rfl, Ext.refl _⟩
      case round =>
        obtain ⟨j, hj, rfl, hEj⟩ := hrel
        by_cases hjl : j < 24 - i'
        · have hx : ds[j]? = some (ds[j]'(by rw [HDL.out]; exact hjl)) := List.getElem?_eq_getElem _
          generalize ds[j]'(by rw [HDL.out]; exact hjl) = x at hx
          have a0 := (hRW.ext hEj).2 j x (HTJ.out j x hx)
          have a1 := (hrowD.ext hEj).2 j x hx
          have l0 := (hRW.ext hEj).1
          have l1 := (hrowD.ext hEj).1
          rw [Nat.zero_add] at a0
          have hjn : (j : Int) < (n : Int) := by omega
          have hjn2 : j < n := by omega
          have hjd : (j : Int) < ((24 - i' : Nat) : Int) := by omega
          clear hx
          go_wp2
          go_big_region
          go_wp2
          go_roundw
          case rel => exact ⟨j + 1, by omega, by go_num, hEj.drew⟩
          case measure => simp [intOf]; omega
        · have a0 := (hRW.ext hEj).2 (24 - i') 10 HTD.out
          rw [Nat.zero_add] at a0
          have l0 := (hRW.ext hEj).1
          have hdn : ((24 - i' : Nat) : Int) < (n : Int) := by omega
          have hdn2 : 24 - i' < n := by omega
          go_wp2
          go_ret
          exact ⟨rfl, (hEs.trans hEj).below⟩
    · have hqz : ((q : Int) == 0) = false := by simp; omega
      go_wp2
      go_roundw
      case rel =>
        have hkb : ¬ k < 10 := by have := HQ.out; omega
        refine ⟨i', q, UInt8.ofNat (48 + d) :: suf, rfl, rfl, ?_, ?_, hset, hEs, by omega⟩
        · show _ = _
          rw [hdk.out, dec_big hkb, HQ.out, HDk.out]
          simp
        · show _ = _
          have h1 := hil.out
          have h2 := HII.out
          simp
          omega
      case measure =>
        have hqq := HQ.out
        simp [intOf]
        omega
end Go.Proofs.Qxb6618064aDoor
