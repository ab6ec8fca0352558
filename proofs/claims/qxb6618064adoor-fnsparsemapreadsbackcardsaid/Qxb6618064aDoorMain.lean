/- FnSparseMapSaysTheHoleOnce. -/
import Derived.Test.Qxb6618064aDoorCmp
set_option linter.unusedVariables false
namespace Go.Proofs.Qxb6618064aDoor
open Go.RowKit Go.Sort

def CopyPost (n : Nat) (l : List A2) (w : World) (e : Ending) (W : World) : Prop := ∃ co, e = .returned (.slice co n n) ∧ Ext w W ∧ RowO W co l ∧ (co = none → n = 0)
theorem clone_o (ao : Option Addr) (n cap : Nat) (l : List A2) (w : World) (hn : n ≤ 200000) (hl : l.length = n) (hR : RowO w ao l) (hz : ao = none → n = 0 ∧ cap = 0) : Calls Tryd.prog 14 #[.slice ao n cap] w fun e w' => CopyPost n l w e w' := by
  cases ao with
  | none =>
    obtain ⟨rfl, rfl⟩ := hz rfl
    refine (clone_nil w).mono ?_
    rintro e w' ⟨rfl, hE⟩
    exact ⟨none, rfl, hE, Or.inl (nil_len hl), fun _ => rfl⟩
  | some a =>
    refine (clone_some a n cap l w hn hl hR).mono ?_
    rintro e w' ⟨rfl, hE, hB⟩
    exact ⟨_, rfl, hE, Or.inr ⟨_, _, rfl, hB.row⟩, fun h => by cases h⟩
theorem toHR_o (ao : Option Addr) (n cap : Nat) (l : List A2) (w : World) (hn : n ≤ 200000) (hl : l.length = n) (hR : RowO w ao l) (hz : ao = none → n = 0 ∧ cap = 0) : Calls Tryd.prog 15 #[.slice ao n cap] w fun e w' => CopyPost n l w e w' := by
  cases ao with
  | none =>
    obtain ⟨rfl, rfl⟩ := hz rfl
    refine (toHR_nil w).mono ?_
    rintro e w' ⟨rfl, hE⟩
    exact ⟨none, rfl, hE, Or.inl (nil_len hl), fun _ => rfl⟩
  | some a =>
    refine (toHR_some a n cap l w hn hl hR).mono ?_
    rintro e w' ⟨rfl, hE, hB⟩
    exact ⟨_, rfl, hE, Or.inr ⟨_, _, rfl, hB.row⟩, fun h => by cases h⟩
theorem RowO.of_below {w W : World} {ao : Option Addr} {l : List A2} (h : RowO w ao l) (hB : Below w.heap.size w W) : RowO W ao l := by
  rcases h with h | ⟨b, off, e, hR⟩
  · exact Or.inl h
  · exact Or.inr ⟨b, off, e, hR.of_below hB hR.1⟩
theorem hole_said {size : Int} (hs : In64 size) (l : List A2) : hole size (l ++ [(size, 0)]) = false := by
  unfold hole
  rw [List.getLast?_append, List.getLast?_singleton]
  simp only [Option.some_or]
  refine decide_eq_false ?_
  unfold endOf wrap64
  unfold In64 at hs
  simp only
  omega
theorem regs_said {size : Int} (hs : In64 size) (l : List A2) : regsOf size (l ++ [(size, 0)]) = l ++ [(size, 0)] := by
  unfold regsOf
  rw [hole_said hs]
  rfl
theorem regs_hole {size : Int} {l : List A2} (h : hole size l = true) : regsOf size l = l ++ [(size, 0)] := by
  unfold regsOf
  rw [h]
  rfl
theorem mapB_len (rs : List A2) : 0 < (mapB rs).length ∧ (mapB rs).length % 512 = 0 := by
  unfold mapB pad padN
  have : 0 < (txt rs.length rs).length := by unfold txt; simp; omega
  simp only [List.length_append, List.length_replicate]
  omega
theorem mapB_le (rs : List A2) (hN : rs.length ≤ 200000) (h : ∀ r ∈ rs, In64 r.1 ∧ In64 r.2) : (mapB rs).length ≤ 100000000 := by
  have h1 := txt_len hN rs h
  have h2 := padN_le (txt rs.length rs).length
  unfold mapB pad
  simp only [List.length_append, List.length_replicate]
  omega
theorem mapB_count (rs : List A2) : ∃ r, mapB rs = Lib.decDigits rs.length ++ (10 : UInt8) :: r := by
  refine ⟨rs.flatMap line ++ List.replicate (padN (txt rs.length rs).length) 0, ?_⟩
  unfold mapB pad txt
  rw [Lib.itoa_nonneg]
  simp
/-- the world of the loop that copies -/
structure SS (w W : World) (g cap : Nat) (l : List A2) : Prop where
  buf : BufA 33 W g cap l
  below : Below w.heap.size w W
  ge : w.heap.size ≤ g

set_option maxRecDepth 100000 in
set_option maxHeartbeats 2000000 in
theorem fn5_any (size : Int) (ao : Option Addr) (n cap : Nat) (mid : Bool) (l : List A2) (w : World) (hR : RowO w ao l) (hl : l.length = n) (hn : n ≤ 65536) (hz : ao = none → n = 0 ∧ cap = 0) (hsz : In64 size) (hin : ∀ r ∈ l, In64 r.1 ∧ In64 r.2) (htab : Lib.TabIs Tryd.prog w powN .u64 Lib.pow10Tab) :
    Calls Tryd.prog 5 #[.int .i64 size, .slice ao n cap, .bool mid] w fun e w' => e = .returned (.bool true) ∧ Below w.heap.size w w' := by
  obtain ⟨i0, hi, hz33, hs33, hb33⟩ := info_parts info33
  have HL : Hid _ := hl
  have HZ : Hid _ := hz
  have HSZ : Hid _ := hsz
  have HIN : Hid _ := hin
  have HTB : Hid (Lib.TabBelow Tryd.prog w.heap.size w powN .u64 Lib.pow10Tab) := Lib.tabBelow_of_tabIs htab
  clear hl hz hsz hin htab hz33 hb33
  go_enter Tryd.func5, Tryd.ntmps5
  go_wp2_with fail
  refine (ends_any size ao n cap l w (by omega) HL.out hR).mono ?_
  rintro e W1 ⟨rfl, hE1⟩
  cases hh : hole size l with
  | false =>
    go_wp2
    go_ret
    exact ⟨rfl, hE1.below⟩
  | true =>
  have HH : Hid _ := hh
  clear hh
  go_wp2_with fail
  refine (clone_o ao n cap l W1 (by omega) HL.out (hR.ext hE1) HZ.out).mono ?_
  rintro e W2 ⟨co, rfl, hE2, hrow, hco⟩
  have hEw : Ext w W2 := hE1.trans hE2
  have hmk : ∀ w : World, (Instr.makeSlice 29 (.int .i64 0) (.int .i64 ((n : Int) + 1))).run Tryd.prog w = .ok (.slice (some ⟨w.heap.size, 0, none⟩) 0 (n + 1)) (w.alloc (.cells (made2 (n + 1)) 33)) := fun w => by
    have := run_make29c (n + 1) (by omega) w
    rwa [Int.natCast_add] at this
  have h0 : SS W2 (W2.alloc (.cells (made2 (n + 1)) 33)) W2.heap.size (n + 1) (l.take 0) :=
    ⟨BufA.made (heap_alloc_new _ _), ((Ext.refl W2).alloc _).below, Nat.le_refl _⟩
  clear hE1 hE2
  have HCO : Hid (co = none → n = 0) := hco
  clear hco
  go_wp2
  go_loopw [8, 7] (fun v8 v7 wr => ∃ k : Nat, k ≤ n ∧ v8 = .int .i64 k ∧ v7 = .slice (some ⟨W2.heap.size, 0, none⟩) k (n + 1) ∧ SS W2 wr W2.heap.size (n + 1) (l.take k)) (fun v8 _ _ => n - (intOf v8).toNat)
  case atStart => exact ⟨0, by omega, rfl, rfl, h0⟩
  case round =>
    obtain ⟨k, hk, rfl, rfl, hJ⟩ := hrel
    clear h0 hmk
    have hlen : (l.take k).length = k := by rw [List.length_take, HL.out]; omega
    by_cases hlt : k < n
    · obtain ⟨b, off, x, rfl, hRr, hx⟩ := hrow.get (i := k) (by rw [HL.out]; exact hlt)
      obtain ⟨a0, a1⟩ := (hRr.of_below hJ.below hRr.1).2 k x hx
      have hwb : b < wr.heap.size := Nat.lt_of_lt_of_le hRr.1 hJ.below.size
      obtain ⟨xs, hown, hxs⟩ := hJ.buf.own (by rw [hlen]; omega) (by unfold maxLen; omega)
      rw [hlen] at hown
      have hxl := hown.1
      have hown1 := hown.alloc (box2 33 x)
      have hnews := news2 33 wr x
      have hone := enc2_one x
      have HX : Hid _ := hx
      have HXS : Hid _ := hxs
      clear hown hx hxs hRr
      go_wp2_with (at_builtin; refine wpList_append_fits _ rfl (.tmp 32) (.tmp 37) 29 rfl 0 33 i0 2 Tryd.underlying29 hi hs33 W2.heap.size k (n + 1) xs rfl hown1 ⟨wr.heap.size, 0, none⟩ 1 1 (enc2 x) rfl rfl hnews hone (by omega) ?_)
      intro w1 hown2 hgr
      have hJ1 : SS W2 w1 W2.heap.size (n + 1) (l.take (k + 1)) := by
        have hb1 := BufA.of_own hown2 (snoc_cells (z := x) (by rw [hlen]; exact hxl) HXS.out)
        rw [show l.take k ++ [x] = l.take (k + 1) by rw [List.take_add_one, HX.out]; rfl] at hb1
        exact ⟨hb1, (hJ.below.alloc hJ.below.size _).grown hgr (by simp; exact Nat.le_succ_of_le hJ.below.size) (fun j hj => by injection hj with hj; omega), Nat.le_refl _⟩
      clear hown1 hown2 hgr hnews hone a0 a1 hxl
      go_wp2
      go_roundw
      case rel => exact ⟨k + 1, by omega, by go_num, rfl, hJ1⟩
      case measure => simp [intOf]; omega
    · obtain rfl : n = k := by omega
      have hJ2 : SS W2 wr W2.heap.size (n + 1) l := by
        have := hJ
        rw [show l.take n = l by rw [← HL.out, List.take_length]] at this
        exact this
      clear hJ hlen
      obtain ⟨xs, hown, hxs⟩ := hJ2.buf.own (by rw [HL.out]; omega) (by unfold maxLen; omega)
      rw [HL.out] at hown
      have hxl := hown.1
      have hown1 := hown.alloc (box2 33 (size, 0))
      have hnews := news2 33 wr (size, 0)
      have hone := enc2_one (size, 0)
      have HXS : Hid _ := hxs
      clear hown hxs
      go_wp2_with (at_builtin; refine wpList_append_fits _ rfl (.tmp 39) (.tmp 42) 29 rfl 0 33 i0 2 Tryd.underlying29 hi hs33 W2.heap.size n (n + 1) xs rfl hown1 ⟨wr.heap.size, 0, none⟩ 1 1 (enc2 (size, 0)) rfl rfl hnews hone (by omega) ?_)
      intro W3 hown2 hgr
      have hJ3 : SS W2 W3 W2.heap.size (n + 1) (l ++ [(size, 0)]) := by
        have hb1 := BufA.of_own hown2 (snoc_cells (z := (size, 0)) (by rw [HL.out]; exact hxl) HXS.out)
        exact ⟨hb1, (hJ2.below.alloc hJ2.below.size _).grown hgr (by simp; exact Nat.le_succ_of_le hJ2.below.size) (fun j hj => by injection hj with hj; omega), Nat.le_refl _⟩
      clear hown1 hown2 hgr hnews hone hxl hJ2
      have hbw3 : Below w.heap.size w W3 := hEw.below.trans (hJ3.below.mono hEw.size)
      have HSZ' : In64 size := HSZ.out
      go_wp2_with fail
      refine (toHR_o co n n l W3 (by omega) HL.out (hrow.of_below hJ3.below) (fun h => ⟨HCO.out h, HCO.out h⟩)).mono ?_
      rintro e W4 ⟨c1, rfl, hE4, hrow4, hc1⟩
      have hsaid : RowO W4 (some ⟨W2.heap.size, 0, none⟩) (l ++ [(size, 0)]) := Or.inr ⟨_, 0, rfl, (hJ3.buf.ext hE4).row⟩
      have hEa : Ext W4 (W4.alloc (sparse size c1 n n mid)) := (Ext.refl _).alloc _
      have hS1 : (W4.alloc (sparse size c1 n n mid)).heap[W4.heap.size]? = some (sparse size c1 n n mid) := heap_alloc_new _ _
      have hln : (l ++ [(size, 0)]).length = n + 1 := by rw [List.length_append, HL.out]; rfl
      have hb4 : Below w.heap.size w (W4.alloc (sparse size c1 n n mid)) := hbw3.trans ((hE4.trans hEa).below.mono hbw3.size)
      have HS1 : Hid _ := hS1
      have HLN : Hid _ := hln
      have HEA : Hid (Ext W4 (W4.alloc (sparse size c1 n n mid))) := hEa
      have HC1 : Hid (c1 = none → n = 0) := hc1
      clear hS1 hln hc1 hEa
      go_wp2_with fail
      refine (toHR_o (some ⟨W2.heap.size, 0, none⟩) (n + 1) (n + 1) (l ++ [(size, 0)]) (W4.alloc (sparse size c1 n n mid)) (by omega) HLN.out (hsaid.ext HEA.out) (fun h => by cases h)).mono ?_
      rintro e W5 ⟨c2, rfl, hE5, hrow5, hc2⟩
      have hE5a : Ext W5 (W5.alloc (sparse size c2 (n + 1) (n + 1) (!mid))) := (Ext.refl _).alloc _
      have hS2 : (W5.alloc (sparse size c2 (n + 1) (n + 1) (!mid))).heap[W5.heap.size]? = some (sparse size c2 (n + 1) (n + 1) (!mid)) := heap_alloc_new _ _
      have hS1' : (W5.alloc (sparse size c2 (n + 1) (n + 1) (!mid))).heap[W4.heap.size]? = some (sparse size c1 n n mid) := ((hE5.trans hE5a).block _ (Array.getElem?_eq_some_iff.1 HS1.out).1).trans HS1.out
      have hr1 := ((hrow4.ext HEA.out).ext hE5).ext hE5a
      have hr2 := hrow5.ext hE5a
      have hb5 : Below w.heap.size w (W5.alloc (sparse size c2 (n + 1) (n + 1) (!mid))) := hb4.trans ((hE5.trans hE5a).below.mono hb4.size)
      have hin2 : ∀ r ∈ l ++ [(size, 0)], In64 r.1 ∧ In64 r.2 := by
        intro r hr
        rcases List.mem_append.1 hr with h | h
        · exact HIN.out r h
        · rw [List.mem_singleton.1 h]
          exact ⟨HSZ', by unfold In64; simp⟩
      have hm1 := map_any W4.heap.size size c1 n n mid l (W5.alloc (sparse size c2 (n + 1) (n + 1) (!mid))) hS1' hr1 HL.out (by omega) (Nat.le_refl _) (fun h => ⟨HC1.out h, HC1.out h⟩) HSZ' HIN.out (HTB.out _ hb5)
      rw [regs_hole HH.out] at hm1
      have HM1 : Hid (Calls Tryd.prog 16 #[.pointer (some ⟨W4.heap.size, 0, none⟩)] (W5.alloc (sparse size c2 (n + 1) (n + 1) (!mid))) fun e w' => MapPost (W5.alloc (sparse size c2 (n + 1) (n + 1) (!mid))) (l ++ [(size, 0)]) e w') := hm1
      have HS2 : Hid _ := hS2
      have HIN2 : Hid _ := hin2
      clear hm1 hS2 hS1' hin2
      go_wp2_with fail
      refine HM1.out.mono ?_
      rintro e W6 ⟨g6, cp6, rfl, hown6, hB6⟩
      have hS26 := (hB6.block _ (Array.getElem?_eq_some_iff.1 HS2.out).1).trans HS2.out
      have hb6 : Below w.heap.size w W6 := hb5.trans (hB6.mono hb5.size)
      have hrowA := RowB.of_own hown6
      have hm2 := map_any W5.heap.size size c2 (n + 1) (n + 1) (!mid) (l ++ [(size, 0)]) W6 hS26 (hr2.of_below hB6) HLN.out (by omega) (Nat.le_refl _) (fun h => by have := hc2 h; omega) HSZ' HIN2.out (HTB.out _ hb6)
      rw [regs_said HSZ'] at hm2
      have HM2 : Hid (Calls Tryd.prog 16 #[.pointer (some ⟨W5.heap.size, 0, none⟩)] W6 fun e w' => MapPost W6 (l ++ [(size, 0)]) e w') := hm2
      clear hm2 hS26 hown6
      go_wp2_with fail
      refine HM2.out.mono ?_
      rintro e W7 ⟨g7, cp7, rfl, hown7, hB7⟩
      have hrowB := RowB.of_own hown7
      have hrowA7 := hrowA.of_below hB7 hrowA.1
      have hb7 : Below w.heap.size w W7 := hb6.trans (hB7.mono hb6.size)
      obtain ⟨p0, p1⟩ := mapB_len (l ++ [(size, 0)])
      have p2 := mapB_le (l ++ [(size, 0)]) (by rw [HLN.out]; omega) HIN2.out
      obtain ⟨rr, p3⟩ := mapB_count (l ++ [(size, 0)])
      rw [HLN.out] at p3
      have HP3 : Hid _ := p3
      clear p3 hown7 HM1 HM2 hrowA
      generalize mapB (l ++ [(size, 0)]) = T at *
      generalize hTL : T.length = L at *
      have HTL : Hid _ := hTL
      clear hTL
      have q0 : (0 : Int) < (L : Int) := by omega
      have q1 : (L : Int).tmod 512 = 0 := by
        have : (L : Int).tmod 512 = ((L % 512 : Nat) : Int) := rfl
        rw [this, p1]
        rfl
      have q2 : L ≠ 0 := by omega
      have hcc := count_any g6 L cp6 T rr (n + 1) W7 p2 HTL.out hrowA7 HP3.out (by omega)
      rw [Int.natCast_add] at hcc
      have HCC : Hid (Calls Tryd.prog 17 #[.slice (some ⟨g6, 0, none⟩) L cp6, .int .i64 ((n : Int) + 1)] W7 fun e w' => e = .returned (.bool true) ∧ Below W7.heap.size W7 w') := hcc
      clear hcc p1
      go_wp2_with fail
      refine HCC.out.mono ?_
      rintro e W8 ⟨rfl, hB8⟩
      have hA8 := hrowA7.of_below hB8 hrowA7.1
      have hB8' := hrowB.of_below hB8 hrowB.1
      have hb8 : Below w.heap.size w W8 := hb7.trans (hB8.mono hb7.size)
      go_wp2_with fail
      refine (same_any g6 g7 0 0 L cp6 cp7 T W8 p2 HTL.out hA8 hB8').mono ?_
      rintro e W9 ⟨rfl, hE9⟩
      go_wp2
      go_ret
      exact ⟨rfl, hb8.trans (hE9.below.mono hb8.size)⟩
theorem fn5_early (size : Int) (ao : Option Addr) (n cap : Nat) (mid : Bool) (w : World) (hn : n ≤ maxLen) (h : 65536 < n) :
    Calls Tryd.prog 5 #[.int .i64 size, .slice ao n cap, .bool mid] w fun e w' => e = .returned (.bool true) ∧ Below w.heap.size w w' := by
  unfold maxLen at hn
  have h2 : (65536 : Int) < (n : Int) := by omega
  go_enter Tryd.func5, Tryd.ntmps5
  go_wp2
  go_ret
  exact ⟨rfl, Below.refl _ _⟩
end Go.Proofs.Qxb6618064aDoor
