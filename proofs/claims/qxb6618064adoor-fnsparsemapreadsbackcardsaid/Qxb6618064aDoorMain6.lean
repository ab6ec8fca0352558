/- sameRegs; FnSparseMapReadsBack. -/
import Derived.Test.Qxb6618064aDoorRead
import Derived.Laws.StructEq
import Derived.ChangeKeysEq
set_option linter.unusedVariables false
namespace Go.Proofs.Qxb6618064aDoor
open Go.RowKit Go.Sort

def eq2 (x y : A2) : Bool := x.1 == y.1 && x.2 == y.2
theorem eq2_refl (x : A2) : eq2 x x = true := by simp [eq2]
theorem neq33 (x y : A2) (w : World) :
    (binOp .neq 33 (.agg #[.int .i64 x.1, .int .i64 x.2]) (.agg #[.int .i64 y.1, .int .i64 y.2])).run Tryd.prog w = .ok (.bool (!eq2 x y)) w := by
  have hS : Tryd.prog.underlying 33 = some (.struct (Tryd.prog.fieldsOf 33)) := by kernel_rfl
  have hp : Tryd.prog.stoodInHeld 33 = false := by kernel_rfl
  have h2 := Tryd.isAgg2
  rw [run_neq_struct, show (10000 : Nat) = 9999 + 1 from rfl, run_equalIn_agg w 9999 33 _ _ hS hp]
  simp only [Program.fieldsOf, Tryd.underlying33]
  simp only [Op.eqFields]
  simp [part, h2]
  rw [show (9999 : Nat) = 9998 + 1 from rfl, run_equalIn_int w 9998 2 .i64 .i64 _ _ Tryd.underlying2]
  unfold eq2
  cases h : (x.1 == y.1)
  · simp
  · simp
    rw [run_equalIn_int w 9998 2 .i64 .i64 _ _ Tryd.underlying2]
    cases h2 : (x.2 == y.2) <;> simp
theorem guard33 (op : BinOp) (a b : Operand) (xs ys : Array Value) (w : World) : (eqGuard op 33 a b (.agg xs) (.agg ys)).run Tryd.prog w = .ok () w := run_eqGuard_agg w op 33 a b xs ys (by kernel_rfl)
set_option maxHeartbeats 1000000 in
theorem sameRegs_any (ao : Option Addr) (n cap : Nat) (l : List A2) (bo : Option Addr) (cap' : Nat) (w : World) (hn : n ≤ 400000) (hl : l.length = n) (hR : RowO w ao l) (hR' : RowO w bo l) :
    Calls Tryd.prog 20 #[.slice ao n cap, .slice bo n cap'] w fun e w' => e = .returned (.bool true) ∧ Ext w w' := by
  have h33 := neq33
  have g33 := guard33
  have HL : Hid _ := hl
  clear hl
  go_enter Tryd.func20, Tryd.ntmps20
  go_wp2
  go_loopw [5] (fun i wr => ∃ k : Nat, k ≤ n ∧ i = .int .i64 k ∧ Ext w wr) (fun i _ => n - (intOf i).toNat)
  case atStart => exact ⟨0, by omega, rfl, Ext.refl _⟩
  case round =>
    obtain ⟨k, hk, rfl, hE⟩ := hrel
    by_cases hlt : k < n
    · obtain ⟨b, off, x, rfl, hRr, hx⟩ := (hR.ext hE).get (i := k) (by rw [HL.out]; exact hlt)
      obtain ⟨c, off2, y, rfl, hRr2, hy⟩ := (hR'.ext hE).get (i := k) (by rw [HL.out]; exact hlt)
      obtain rfl : x = y := by rw [hx] at hy; injection hy
      obtain ⟨a0, a1⟩ := hRr.quiet hx
      obtain ⟨b0, b1⟩ := hRr2.quiet hx
      have e0 := eq2_refl x
      clear hx hy hRr hRr2
      go_wp2
      refine wp_region_quiet_grown follows (by kernel_rfl) ?_
      repeat (go_big_quiet_step (fail))
      refine wpQuiet_nil ?_
      intro _ hw'
      obtain ⟨⟨nq, osq⟩, hw''⟩ := hw'
      subst hw''
      go_wp2
      go_roundw
      case rel => exact ⟨k + 1, by omega, by go_num, (hE.drewN _).grow _⟩
      case measure => simp [intOf]; omega
    · go_wp2
      go_ret
      exact ⟨rfl, hE⟩
theorem regs_new33 {w V w1 : World} {size : Int} {n B : Nat} {l : List A2} {v' : Value} (hE : Ext w V) (hl : l.length = n) (hh : hole size l = true) (hown : w1.ownsRow B 33 2 v' (n + 1) (flat l ++ enc2 (size, 0))) (hgr : V.grownBy w1 none) : Regs w (regsOf size l) v' w1 := by
  have e : regsOf size l = l ++ [(size, 0)] := by unfold regsOf; rw [hh]; rfl
  rw [e]
  obtain ⟨g, cap, rfl, hg, _⟩ := hown.form (by omega)
  have hB := BufA.of_own hown (snoc_cells (z := (size, 0)) (flat_len l) (flat_get l))
  refine ⟨_, cap, by rw [List.length_append, hl]; rfl, Or.inr ⟨g, 0, rfl, hB.row⟩, ?_⟩
  exact hE.below.grown hgr hE.size (fun k hk => by cases hk)

set_option maxRecDepth 100000 in
set_option maxHeartbeats 2000000 in
theorem fn6_any (size : Int) (ao : Option Addr) (n cap : Nat) (mid : Bool) (l : List A2) (w : World) (hR : RowO w ao l) (hl : l.length = n) (hn : n ≤ 65536) (hz : ao = none → n = 0 ∧ cap = 0) (hsz : In64 size) (hin : ∀ r ∈ l, In64 r.1 ∧ In64 r.2) (htab : Lib.TabIs Tryd.prog w powN .u64 Lib.pow10Tab) :
    Calls Tryd.prog 6 #[.int .i64 size, .slice ao n cap, .bool mid] w fun e w' => e = .returned (.bool true) ∧ Below w.heap.size w w' := by
  obtain ⟨i0, hi, hz0, hz1, hz2⟩ := info_parts info33
  have HL : Hid _ := hl
  have HZ : Hid _ := hz
  have HSZ : Hid (In64 size) := hsz
  have HIN : Hid _ := hin
  have HTB : Hid (Lib.TabBelow Tryd.prog w.heap.size w powN .u64 Lib.pow10Tab) := Lib.tabBelow_of_tabIs htab
  clear hl hz hsz hin htab
  go_enter Tryd.func6, Tryd.ntmps6
  go_wp2_with fail
  refine (clone_o ao n cap l w (by omega) HL.out hR HZ.out).mono ?_
  rintro e W1 ⟨co, rfl, hE1, hrow1, hco⟩
  have HCO : Hid (co = none → n = 0) := hco
  clear hco
  go_wp2_with fail
  refine (clone_o co n n l W1 (by omega) HL.out hrow1 (fun h => ⟨HCO.out h, HCO.out h⟩)).mono ?_
  rintro e W2 ⟨c2, rfl, hE2, hrow2, hc2⟩
  have HC2 : Hid (c2 = none → n = 0) := hc2
  clear hc2
  go_wp2_with fail
  refine (ends_any size co n n l W2 (by omega) HL.out (hrow1.ext hE2)).mono ?_
  rintro e W3 ⟨rfl, hE3⟩
  have hrow1' := (hrow1.ext hE2).ext hE3
  have hrow2' := hrow2.ext hE3
  have hEw : Ext w W3 := (hE1.trans hE2).trans hE3
  have HR1 : Hid (RowO W3 co l) := hrow1'
  have HR2 : Hid (RowO W3 c2 l) := hrow2'
  have HEW : Hid (Ext w W3) := hEw
  clear hE1 hE2 hE3 hrow1 hrow2 hrow1' hrow2' hEw
  generalize hhb : hole size l = hb at *
  have HHB : Hid (hole size l = hb) := hhb
  clear hhb
  go_upto_if 20 with fail
  go_cut [7] (fun v7 W => Regs W3 (regsOf size l) v7 W)
  case first =>
    cases hb with
    | false =>
      go_wp2_with fail
      go_meet
      exact regs_same (Ext.refl _) HR2.out HL.out HHB.out
    | true =>
      have hEV : Ext W3 (W3.alloc (box2 33 (size, 0))) := (Ext.refl _).alloc _
      have hnews := news2 33 W3 (size, 0)
      have hold : ∀ b, c2 = some b → ∀ j u, (flat l)[j]? = some u → (W3.alloc (box2 33 (size, 0))).cell? (b.add j) = some u := by
        intro b hab j u hu
        rcases HR2.out.ext hEV with h | ⟨b', off, e, hRr⟩
        · rw [h] at hu; simp [flat] at hu
        · rw [hab] at e
          injection e with e
          rw [e]
          exact hRr.flat j u hu
      have hfl : (flat l).length = n * 2 := by rw [flat_len, HL.out]
      have hno : c2 = none → n = 0 ∧ n = 0 := fun h => ⟨HC2.out h, HC2.out h⟩
      have HEV : Hid (Ext W3 (W3.alloc (box2 33 (size, 0)))) := hEV
      clear hEV
      go_wp2_with (at_builtin; refine wpList_append_grows _ rfl (.tmp 21) (.tmp 24) 29 rfl 33 i0 (.agg #[.int .i64 0, .int .i64 0]) 2 16 Tryd.underlying29 hi hz0 hz1 hz2 rfl (by decide) c2 n n (flat l) rfl hno hfl hold ⟨W3.heap.size, 0, none⟩ 1 1 (enc2 (size, 0)) rfl rfl hnews (enc2_one _) (by omega) (by unfold maxLen; omega) (by omega) ?_)
      intro v' w1 hown hgr
      go_wp2_with fail
      go_meet
      exact regs_new33 HEV.out HL.out HHB.out hown hgr
  case rest =>
    obtain ⟨wo, wcap, rfl, hrw, hbw⟩ := hcut
    have hRn : (regsOf size l).length ≤ n + 1 := by
      unfold regsOf
      split
      · rw [List.length_append, HL.out]; simp
      · rw [HL.out]; omega
    have hin2 : ∀ r ∈ regsOf size l, In64 r.1 ∧ In64 r.2 := by
      intro r hr
      unfold regsOf at hr
      split at hr
      · rcases List.mem_append.1 hr with h | h
        · exact HIN.out r h
        · rw [List.mem_singleton.1 h]
          exact ⟨HSZ.out, by unfold In64; simp⟩
      · exact HIN.out r hr
    have HIN2 : Hid _ := hin2
    obtain ⟨W4, hWe⟩ : ∃ W4 : World, W4 = wc := ⟨_, rfl⟩
    subst hWe
    have hb4 : Below w.heap.size w W4 := HEW.out.below.trans (hbw.mono HEW.out.size)
    have hr4 := HR1.out.of_below hbw
    clear hin2
    go_wp2_with fail
    refine (toHR_o co n n l W4 (by omega) HL.out hr4 (fun h => ⟨HCO.out h, HCO.out h⟩)).mono ?_
    rintro e W5 ⟨c1, rfl, hE5, hrow5, hc1⟩
    have hEa : Ext W5 (W5.alloc (sparse size c1 n n mid)) := (Ext.refl _).alloc _
    have hS1 : (W5.alloc (sparse size c1 n n mid)).heap[W5.heap.size]? = some (sparse size c1 n n mid) := heap_alloc_new _ _
    have hb5 : Below w.heap.size w (W5.alloc (sparse size c1 n n mid)) := hb4.trans ((hE5.trans hEa).below.mono hb4.size)
    have hrw5 := (hrw.ext hE5).ext hEa
    have hm1 := map_any W5.heap.size size c1 n n mid l (W5.alloc (sparse size c1 n n mid)) hS1 (hrow5.ext hEa) HL.out (by omega) (Nat.le_refl _) (fun h => ⟨hc1 h, hc1 h⟩) HSZ.out HIN.out (HTB.out _ hb5)
    have HM1 : Hid (Calls Tryd.prog 16 #[.pointer (some ⟨W5.heap.size, 0, none⟩)] (W5.alloc (sparse size c1 n n mid)) fun e w' => MapPost (W5.alloc (sparse size c1 n n mid)) (regsOf size l) e w') := hm1
    have HRW5 : Hid (RowO (W5.alloc (sparse size c1 n n mid)) wo (regsOf size l)) := hrw5
    clear hm1 hS1 hrw5 hrow5 hc1 hrw hr4
    go_wp2_with fail
    refine HM1.out.mono ?_
    rintro e W6 ⟨g6, cp6, rfl, hown6, hB6⟩
    have hb6 : Below w.heap.size w W6 := hb5.trans (hB6.mono hb5.size)
    have hrw6 := HRW5.out.of_below hB6
    have hrd := read_any g6 cp6 (mapB (regsOf size l)).length (regsOf size l) W6 (by omega) HIN2.out (RowB.of_own hown6) rfl
    have HRD : Hid (Calls Tryd.prog 19 #[.slice (some ⟨g6, 0, none⟩) (mapB (regsOf size l)).length cp6] W6 fun e w' => ReadPost W6 (regsOf size l) e w') := hrd
    have HRW6 : Hid (RowO W6 wo (regsOf size l)) := hrw6
    clear hrd hrw6 hown6
    go_wp2_with fail
    refine HRD.out.mono ?_
    rintro e W7 ⟨go, gcap, rfl, hrow7, hB7⟩
    have hb7 : Below w.heap.size w W7 := hb6.trans (hB7.mono hb6.size)
    have hrw7 := HRW6.out.of_below hB7
    go_wp2_with fail
    refine (sameRegs_any go (regsOf size l).length gcap (regsOf size l) wo wcap W7 (by omega) rfl hrow7 hrw7).mono ?_
    rintro e W8 ⟨rfl, hE8⟩
    go_wp2
    go_ret
    exact ⟨rfl, hb7.trans (hE8.below.mono hb7.size)⟩
theorem fn6_early (size : Int) (ao : Option Addr) (n cap : Nat) (mid : Bool) (w : World) (hn : n ≤ maxLen) (h : 65536 < n) :
    Calls Tryd.prog 6 #[.int .i64 size, .slice ao n cap, .bool mid] w fun e w' => e = .returned (.bool true) ∧ Below w.heap.size w w' := by
  unfold maxLen at hn
  have h2 : (65536 : Int) < (n : Int) := by omega
  go_enter Tryd.func6, Tryd.ntmps6
  go_wp2
  go_ret
  exact ⟨rfl, Below.refl _ _⟩

end Go.Proofs.Qxb6618064aDoor
