/- holds, toIDs of any slice, the length bound of FnPastIsRingOrderedSelection. -/
import Derived.Test.Qxb6618031aSub
import Derived.Test.Qxb6618031aPast
set_option linter.unusedVariables false
namespace Go.Proofs.Qxb6618031a
open Go.RowKit Go.Sort

def box28 (x : W3) : Obj := .cells #[.int .u64 x.1, .int .u64 x.2.1, .int .u64 x.2.2] 28 (0, 0)
theorem boxed28 {w : World} {b : Nat} {x : W3} (h : w.heap[b]? = some (box28 x)) :
    w.cell? ⟨b, 0, none⟩ = some (.int .u64 x.1) ∧ w.cell? ⟨b, 1, none⟩ = some (.int .u64 x.2.1) ∧ w.cell? ⟨b, 2, none⟩ = some (.int .u64 x.2.2) := by
  simp [World.cell?, h, box28]

set_option maxHeartbeats 1000000 in
theorem holds_row (b off n cap : Nat) (Z : Nat → W3) (v : W3) (w : World) (hn : n ≤ 1000000) (hR : Row3 w b off n Z) :
    Calls Try.prog 20 #[.slice (some ⟨b, off, none⟩) n cap, .agg #[.int .u64 v.1, .int .u64 v.2.1, .int .u64 v.2.2]] w
      fun e w' => e = .returned (.bool (containsB Z n v)) ∧ Ext w w' := by
  obtain ⟨j0, h1, h2, h3⟩ := first_idx Z v n
  have hC : Hid (containsB Z n v = if j0 < n then true else false) := by
    show containsB Z n v = if j0 < n then true else false
    by_cases hlt : j0 < n
    · rw [if_pos hlt]; exact (containsB_iff Z n v).2 ⟨j0, hlt, h3 hlt⟩
    · rw [if_neg hlt]
      cases hc : containsB Z n v with
      | false => rfl
      | true =>
        obtain ⟨j, hj, e⟩ := (containsB_iff Z n v).1 hc
        exact absurd e (h2 j (by omega))
  have HN : Hid _ := h2
  have HY : Hid _ := h3
  clear h2 h3
  have h28 := eql28
  have g28 := guard28
  have hE0 : Ext w (w.alloc (box28 v)) := (Ext.refl w).alloc _
  have hb : (w.alloc (box28 v)).heap[w.heap.size]? = some (box28 v) := by show (w.heap.push _)[w.heap.size]? = _; simp
  go_enter Try.func20, Try.ntmps20
  go_upto_region 1 with fail
  change Code.wp _ _ _ _ (w.alloc (box28 v))
  generalize w.alloc (box28 v) = V at hE0 hb ⊢
  go_wp2
  go_loopw [5] (fun i wr => ∃ (k : Nat), k ≤ j0 ∧ i = .int .i64 k ∧ Ext V wr) (fun i _ => n - (intOf i).toNat)
  case atStart => exact ⟨0, by omega, rfl, Ext.refl _⟩
  case round =>
    obtain ⟨k, hk, rfl, hE⟩ := hrel
    by_cases hlt : k < n
    · obtain ⟨a0, a1, a2⟩ := (hR.ext (hE0.trans hE)).quiet hlt
      have z0 := fun m os => (boxed28 (Ext.keeps (w' := grow (wr.drewN m) os) (hE.trans ⟨m, os, rfl⟩) hb)).1
      have z1 := fun m os => (boxed28 (Ext.keeps (w' := grow (wr.drewN m) os) (hE.trans ⟨m, os, rfl⟩) hb)).2.1
      have z2 := fun m os => (boxed28 (Ext.keeps (w' := grow (wr.drewN m) os) (hE.trans ⟨m, os, rfl⟩) hb)).2.2
      by_cases hkj : k < j0
      · have he : eq3 (Z k) v = false := eq3_false (fun e => HN.out k hkj e)
        go_wp2
        refine wp_region_quiet_grown follows (by kernel_rfl) ?_
        repeat (go_big_quiet_step (fail))
        refine wpQuiet_nil ?_
        intro _ hw'
        obtain ⟨⟨nq, osq⟩, hw''⟩ := hw'
        subst hw''
        go_wp2
        go_roundw
        case rel => exact ⟨k + 1, by omega, by go_num, (hE.drewN _).grow _⟩
        case measure => simp [intOf]; omega
      · obtain rfl : k = j0 := by omega
        have he : eq3 (Z k) v = true := (eq3_iff _ _).2 (HY.out hlt)
        go_wp2
        refine wp_region_quiet_grown follows (by kernel_rfl) ?_
        repeat (go_big_quiet_step (fail))
        refine wpQuiet_nil ?_
        intro _ hw'
        obtain ⟨⟨nq, osq⟩, hw''⟩ := hw'
        subst hw''
        go_wp2
        go_ret
        exact ⟨ret_bool (by rw [hC.out, if_pos hlt]), hE0.trans ((hE.drewN _).grow _)⟩
    · have hjn : ¬ j0 < n := by omega
      go_wp2
      go_ret
      exact ⟨ret_bool (by rw [hC.out, if_neg hjn]), hE0.trans hE⟩

set_option maxHeartbeats 1000000 in
theorem holds_nil (ao : Option Addr) (cap : Nat) (Z : Nat → W3) (v : W3) (w : World) :
    Calls Try.prog 20 #[.slice ao 0 cap, .agg #[.int .u64 v.1, .int .u64 v.2.1, .int .u64 v.2.2]] w
      fun e w' => e = .returned (.bool (containsB Z 0 v)) ∧ Ext w w' := by
  have hC : Hid (containsB Z 0 v = false) := rfl
  go_enter Try.func20, Try.ntmps20
  go_wp2
  go_loopw [5] (fun i wr => i = .int .i64 0 ∧ Ext w wr) (fun i _ => 0)
  case atStart => exact ⟨rfl, (Ext.refl _).alloc _⟩
  case round =>
    obtain ⟨rfl, hE⟩ := hrel
    go_wp2
    go_ret
    exact ⟨ret_bool hC.out.symm, hE⟩

/-- a slice of [3]uint64, nil and empty too -/
def RowO (w : World) (ao : Option Addr) (n : Nat) (Z : Nat → W3) : Prop := n = 0 ∨ ∃ b off, ao = some ⟨b, off, none⟩ ∧ Row3 w b off n Z
theorem RowO.ext {w w' : World} {ao : Option Addr} {n : Nat} {Z : Nat → W3} (h : RowO w ao n Z) (hE : Ext w w') : RowO w' ao n Z := by
  rcases h with h | ⟨b, off, e, hR⟩
  · exact Or.inl h
  · exact Or.inr ⟨b, off, e, hR.ext hE⟩
theorem holds_any (ao : Option Addr) (n cap : Nat) (Z : Nat → W3) (v : W3) (w : World) (hn : n ≤ 1000000) (hR : RowO w ao n Z) :
    Calls Try.prog 20 #[.slice ao n cap, .agg #[.int .u64 v.1, .int .u64 v.2.1, .int .u64 v.2.2]] w
      fun e w' => e = .returned (.bool (containsB Z n v)) ∧ Ext w w' := by
  rcases hR with rfl | ⟨b, off, rfl, hR⟩
  · exact holds_nil ao cap Z v w
  · exact holds_row b off n cap Z v w hn hR

set_option maxHeartbeats 1000000 in
theorem toIDs_nil (ao : Option Addr) (n cap : Nat) (Z : Nat → W3) (w : World) (h0 : Hid (n = 0)) :
    Calls Try.prog 8 #[.slice ao n cap] w
      fun e w' => e = .returned (.slice (some ⟨w.heap.size, 0, none⟩) n n) ∧ Ext w w' ∧ Buf3 w' w.heap.size n Z := by
  have hmk := run_make25 n (by rw [h0.out]; omega)
  go_enter Try.func8, Try.ntmps8
  go_wp2
  go_loopw [4] (fun i wr => i = .int .i64 0 ∧ Ext w wr ∧ Buf3 wr w.heap.size n Z) (fun i _ => 0)
  case atStart => exact ⟨rfl, (Ext.refl _).alloc _, (Buf3.made w n).congr (fun i hi => by have := h0.out; omega)⟩
  case round =>
    obtain ⟨rfl, hE, hB⟩ := hrel
    clear hmk
    have hlt : ¬ (0 : Int) < n := by have := h0.out; omega
    go_wp2
    go_ret
    exact ⟨rfl, hE, hB⟩
theorem toIDs_o (ao : Option Addr) (n cap : Nat) (Z : Nat → W3) (w : World) (hn : n ≤ 1000000) (hR : RowO w ao n Z) :
    Calls Try.prog 8 #[.slice ao n cap] w
      fun e w' => e = .returned (.slice (some ⟨w.heap.size, 0, none⟩) n n) ∧ Ext w w' ∧ Buf3 w' w.heap.size n Z := by
  rcases hR with h0 | ⟨b, off, rfl, hR⟩
  · exact toIDs_nil ao n cap Z w h0
  · exact toIDs_any b off n cap Z w hn hR

set_option maxHeartbeats 1000000 in
theorem bytes16_ok (x y : W3) (so ao : Option Addr) (m mc n cap : Nat) (keep : Int) (w : World) (hm : m + n ≤ 1048576) :
    Calls Try.prog 16 #[.agg #[.int .u64 x.1, .int .u64 x.2.1, .int .u64 x.2.2], .agg #[.int .u64 y.1, .int .u64 y.2.1, .int .u64 y.2.2], .slice so m mc, .int .i64 keep, .slice ao n cap] w fun e w' => e = .returned (.bool true) ∧ Ext w w' := by
  go_enter Try.func16, Try.ntmps16
  go_wp2
  go_ret
  exact ⟨rfl, ((Ext.refl w).alloc _).alloc _⟩
set_option maxHeartbeats 1000000 in
theorem bytes16_no (x y : W3) (so ao : Option Addr) (m mc n cap : Nat) (keep : Int) (w : World) (hmm : m ≤ 9223372036854775807) (hnn : n ≤ 9223372036854775807) (hm : 1048576 < m + n) :
    Calls Try.prog 16 #[.agg #[.int .u64 x.1, .int .u64 x.2.1, .int .u64 x.2.2], .agg #[.int .u64 y.1, .int .u64 y.2.1, .int .u64 y.2.2], .slice so m mc, .int .i64 keep, .slice ao n cap] w fun e w' => e = .returned (.bool false) ∧ Ext w w' := by
  by_cases h1 : 1048576 < m
  · go_enter Try.func16, Try.ntmps16
    go_wp2
    go_ret
    exact ⟨rfl, ((Ext.refl w).alloc _).alloc _⟩
  · by_cases h2 : 1048576 < n
    · go_enter Try.func16, Try.ntmps16
      go_wp2
      go_ret
      exact ⟨rfl, ((Ext.refl w).alloc _).alloc _⟩
    · go_enter Try.func16, Try.ntmps16
      go_wp2
      go_ret
      exact ⟨rfl, ((Ext.refl w).alloc _).alloc _⟩
end Go.Proofs.Qxb6618031a
