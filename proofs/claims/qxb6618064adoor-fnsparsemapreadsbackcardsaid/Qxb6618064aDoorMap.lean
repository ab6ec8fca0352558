/- (*Sparse).Map. -/
import Derived.Test.Qxb6618064aDoorJoin
import Derived.Deep.RegionLawGrows
import Derived.Deep.CutBlock
import Derived.Lib.ItoaLen
set_option linter.unusedVariables false
namespace Go.Proofs.Qxb6618064aDoor
open Go.RowKit Go.Sort

def line (r : A2) : List UInt8 := Lib.itoa r.1 ++ [10] ++ (Lib.itoa r.2 ++ [10])
def txt (N : Nat) (rs : List A2) : List UInt8 := Lib.itoa (N : Int) ++ [10] ++ rs.flatMap line
def regsOf (size : Int) (l : List A2) : List A2 := if hole size l then l ++ [(size, 0)] else l
def padN (n : Nat) : Nat := (512 - n % 512) % 512
def pad (t : List UInt8) : List UInt8 := t ++ List.replicate (padN t.length) 0
def mapB (rs : List A2) : List UInt8 := pad (txt rs.length rs)
def In64 (x : Int) : Prop := -9223372036854775808 ≤ x ∧ x ≤ 9223372036854775807
theorem cells_app (a b : List UInt8) : Lib.byteCells (a ++ b) = Lib.byteCells a ++ Lib.byteCells b := by simp [Lib.byteCells]
theorem cells_len (a : List UInt8) : (Lib.byteCells a).length = a.length := by simp [Lib.byteCells]
theorem appInt (B n : Nat) (i : Int) (hi : In64 i) (sv : Value) (xs : List Value) (w : World) (hown : w.ownsRow B 5 1 sv n xs) (hBw : B ≤ w.heap.size) (hlim : n + 21 ≤ 140737488355328) (htab : Lib.TabBelow Tryd.prog B w powN .u64 Lib.pow10Tab) :
    Calls Tryd.prog 25 #[sv, .int .i64 i, .int .i64 10] w fun e w' => ∃ v', e = .returned v' ∧ w'.ownsRow B 5 1 v' (n + (Lib.itoa i).length) (xs ++ Lib.byteCells (Lib.itoa i)) ∧ Below B w w' ∧ Lib.OthersKept 5 none w w' :=
  Any.strconv_AppendInt_10 Tryd.lays176 B n i hi.1 hi.2 sv xs w hown hBw hlim htab

/-- a Sparse, with its regions -/
abbrev sparse (size : Int) (ao : Option Addr) (n cap : Nat) (mid : Bool) : Obj := .cells #[.int .i64 size, .slice ao n cap, .bool mid] 38 (0, 0)
theorem sparse_cells {w : World} {b : Nat} {size : Int} {ao : Option Addr} {n cap : Nat} {mid : Bool} (h : w.heap[b]? = some (sparse size ao n cap mid)) : w.cell? ⟨b, 0, none⟩ = some (.int .i64 size) ∧ w.cell? ⟨b, 1, none⟩ = some (.slice ao n cap) ∧ b < w.heap.size := by
  refine ⟨?_, ?_, (Array.getElem?_eq_some_iff.1 h).1⟩ <;> simp [World.cell?, h]
def Regs (w : World) (rs : List A2) (v : Value) (W : World) : Prop := ∃ ao' cap', v = .slice ao' rs.length cap' ∧ RowO W ao' rs ∧ Below w.heap.size w W
theorem hole_t {size : Int} {l : List A2} {b : Bool} (h : hole size l = b) {w : World} {m : Nat} {os : Array Obj} : Value.bool b = Value.bool (hole size l) ∧ Ext w (grow (w.drewN m) os) := ⟨by rw [h], m, os, rfl⟩
theorem nil_len {l : List A2} (h : l.length = 0) : l = [] := List.eq_nil_of_length_eq_zero h
theorem of_block? {W W' : World} {b off : Nat} {l : List A2} (h : RowA W b off l) (e : W'.heap[b]? = W.heap[b]?) (hs : W.heap.size ≤ W'.heap.size) : RowA W' b off l := by
  refine ⟨Nat.lt_of_lt_of_le h.1 hs, fun i x hx => ?_⟩
  obtain ⟨c0, c1⟩ := h.2 i x hx
  exact ⟨(World.cell?_of_block (w := W) (a := ⟨b, _, none⟩) e).trans c0, (World.cell?_of_block (w := W) (a := ⟨b, _, none⟩) e).trans c1⟩

theorem and511 (n : Int) : bits .and .i64 n 511 = n % 512 := by
  have h511 : (BitVec.ofInt 64 511).toNat = 2 ^ 9 - 1 := by decide
  have key : (BitVec.ofInt 64 n &&& BitVec.ofInt 64 511).toNat = (n % ((2 ^ 64 : Nat) : Int)).toNat % 2 ^ 9 := by
    rw [BitVec.toNat_and, BitVec.toNat_ofInt, h511, Nat.and_two_pow_sub_one_eq_mod]
  show IntKind.i64.wrap ((BitVec.ofInt 64 n &&& BitVec.ofInt 64 511).toNat : Nat) = n % 512
  rw [key, IntKind.wrap_i64]
  omega
theorem pad_and (n : Nat) : bits .and .i64 (-(n : Int)) 511 = (padN n : Nat) := by
  rw [and511]
  unfold padN
  omega
theorem padN_le (n : Nat) : padN n ≤ 511 := by unfold padN; omega
/-- what Map hands back -/
def MapPost (w : World) (rs : List A2) (e : Ending) (W : World) : Prop := ∃ g cp, e = .returned (.slice (some ⟨g, 0, none⟩) (mapB rs).length cp) ∧ W.ownsRow w.heap.size 5 1 (.slice (some ⟨g, 0, none⟩) (mapB rs).length cp) (mapB rs).length (Lib.byteCells (mapB rs)) ∧ Below w.heap.size w W
theorem txt_snoc {N : Nat} {rs : List A2} {k : Nat} {x : A2} (hx : rs[k]? = some x) : txt N (rs.take (k + 1)) = (((txt N (rs.take k) ++ Lib.itoa x.1) ++ [10]) ++ Lib.itoa x.2) ++ [10] := by
  unfold txt line
  rw [List.take_add_one, hx]
  simp
theorem line_len {r : A2} (h : In64 r.1 ∧ In64 r.2) : (line r).length ≤ 44 := by
  have h1 := Lib.itoa_length_le r.1 h.1.1 h.1.2
  have h2 := Lib.itoa_length_le r.2 h.2.1 h.2.2
  unfold line
  simp only [List.length_append, List.length_singleton]
  omega
theorem txt_len {N : Nat} (hN : N ≤ 200000) (rs : List A2) (h : ∀ r ∈ rs, In64 r.1 ∧ In64 r.2) : (txt N rs).length ≤ 22 + 44 * rs.length := by
  have h1 := Lib.itoa_length_le (N : Int) (by omega) (by omega)
  have h2 : (rs.flatMap line).length ≤ 44 * rs.length := by
    induction rs with
    | nil => simp
    | cons r rs ih =>
      have := ih (fun r hr => h r (List.mem_cons_of_mem _ hr))
      have hl := line_len (h r (List.mem_cons_self ..))
      simp only [List.flatMap_cons, List.length_append, List.length_cons]
      omega
  unfold txt
  simp only [List.length_append, List.length_singleton]
  omega
/-- the bytes t, a row of the call's own -/
def Bo (B : Nat) (W : World) (v : Value) (t : List UInt8) : Prop := W.ownsRow B 5 1 v t.length (Lib.byteCells t)
theorem Bo.form {B : Nat} {W : World} {v : Value} {t : List UInt8} (h : Bo B W v t) (hn : 0 < t.length) : ∃ g cp, v = .slice (some ⟨g, 0, none⟩) t.length cp ∧ B ≤ g := by
  obtain ⟨g, cp, e, hg, _⟩ := World.ownsRow.form h hn
  exact ⟨g, cp, e, hg⟩
def nlBox : Obj := .cells #[.int .u8 10] 5 (0, 0)
theorem nl_news (W : World) : ∀ j u, [Value.int .u8 10][j]? = some u → (W.alloc nlBox).cell? ((⟨W.heap.size, 0, none⟩ : Addr).add j) = some u := by
  intro j u hu
  have hb : (W.alloc nlBox).heap[W.heap.size]? = some nlBox := heap_alloc_new _ _
  have hj : j < 1 := by
    have := (List.getElem?_eq_some_iff.1 hu).1
    simpa using this
  match j, hj with
  | 0, _ =>
    simp at hu
    subst hu
    show (W.alloc nlBox).cell? ⟨W.heap.size, 0, none⟩ = _
    unfold World.cell?
    simp only [hb]
    rfl
theorem own_ge {B e s n : Nat} {W : World} {v : Value} {xs : List Value} (h : W.ownsRow B e s v n xs) : ∀ k, v.ownBlock = some k → B ≤ k := by
  intro k hk
  rcases h.2 with ⟨rfl, _⟩ | ⟨g, cap, cur, rfl, hb, _⟩
  · cases hk
  · simp [Value.ownBlock] at hk
    omega
/-- a row of bytes with a newline behind it -/
theorem nl_step {B g cp : Nat} {W0 W w2 : World} {v : Value} {t : List UInt8} {xs : List Value} (hB : Below B W0 W) (hle : B ≤ W.heap.size) (hown : W.ownsRow B 5 1 v t.length xs) (hxs : xs = Lib.byteCells t) (hown2 : w2.ownsRow B 5 1 (.slice (some ⟨g, 0, none⟩) (t.length + 1) cp) (t.length + 1) (xs ++ [.int .u8 10])) (hgr : (W.alloc nlBox).grownBy w2 v.ownBlock) :
    Below B W0 w2 ∧ Bo B w2 (.slice (some ⟨g, 0, none⟩) (t.length + 1) cp) (t ++ [10]) ∧ (∀ (k : Nat) (o : Obj), W.heap[k]? = some o → (∀ c fz, o ≠ .cells c 5 fz) → w2.heap[k]? = some o) := by
  refine ⟨?_, ?_, fun k o hk ho => ?_⟩
  · have hb1 : Below B W0 (W.alloc nlBox) := hB.alloc hle _
    exact hb1.grown hgr (by simp; omega) (own_ge hown)
  · unfold Bo
    rw [List.length_append, cells_app, ← hxs]
    exact hown2
  · obtain ⟨_, _, _, _, h5⟩ := hgr
    have hk1 := (Array.getElem?_eq_some_iff.1 hk).1
    rw [h5 k (by simp; omega) ?_]
    · exact (Below.heap_alloc W _ k hk1).trans hk
    · intro e
      rcases hown.2 with ⟨rfl, _⟩ | ⟨g', cap, cur, rfl, hb, hg, _⟩
      · cases e
      · simp [Value.ownBlock] at e
        subst e
        rw [hg] at hk
        injection hk with hk
        exact ho _ _ hk.symm
def MapS (B : Nat) (W0 : World) (N : Nat) (rs : List A2) (k : Nat) (v : Value) (W : World) : Prop := ∃ g cp, v = .slice (some ⟨g, 0, none⟩) (txt N (rs.take k)).length cp ∧ Bo B W v (txt N (rs.take k)) ∧ Below B W0 W
theorem nl_one : ∀ u ∈ [Value.int .u8 10], u.oneCell' = true := by
  intro u hu
  rw [List.mem_singleton.1 hu]
  rfl
theorem enc_at {T : TypeId} {w : World} {b : Nat} {z : A2} (h : w.heap[b]? = some (box2 T z)) : ∀ j u, (enc2 z)[j]? = some u → w.cell? ((⟨b, 0, none⟩ : Addr).add j) = some u := by
  intro j u hu
  obtain ⟨c0, c1⟩ := boxed2 h
  have hj : j < 2 := by
    have := (List.getElem?_eq_some_iff.1 hu).1
    simpa [enc2] using this
  match j, hj with
  | 0, _ => simp [enc2] at hu; subst hu; exact c0
  | 1, _ => simp [enc2] at hu; subst hu; exact c1
theorem regs_same {w W : World} {size : Int} {ao : Option Addr} {n cap : Nat} {l : List A2} (hE : Ext w W) (hR : RowO w ao l) (hl : l.length = n) (hh : hole size l = false) : Regs w (regsOf size l) (.slice ao n cap) W := by
  have e : regsOf size l = l := by unfold regsOf; rw [hh]; rfl
  rw [e]
  exact ⟨ao, cap, by rw [hl], hR.ext hE, hE.below⟩
theorem regs_new {w V w1 : World} {size : Int} {n : Nat} {l : List A2} {v' : Value} (hE : Ext w V) (hl : l.length = n) (hh : hole size l = true) (hown : w1.ownsRow V.heap.size 48 2 v' (n + 1) (flat l ++ enc2 (size, 0))) (hgr : V.grownBy w1 none) : Regs w (regsOf size l) v' w1 := by
  have e : regsOf size l = l ++ [(size, 0)] := by unfold regsOf; rw [hh]; rfl
  rw [e]
  obtain ⟨g, cap, rfl, hg, _⟩ := hown.form (by omega)
  have hB := BufA.of_own hown (snoc_cells (z := (size, 0)) (flat_len l) (flat_get l))
  refine ⟨_, cap, by rw [List.length_append, hl]; rfl, Or.inr ⟨g, 0, rfl, hB.row⟩, ?_⟩
  exact hE.below.grown hgr hE.size (fun k hk => by cases hk)

set_option maxRecDepth 100000 in
set_option maxHeartbeats 4000000 in
theorem map_any (bp : Nat) (size : Int) (ao : Option Addr) (n cap : Nat) (mid : Bool) (l : List A2) (w : World) (hS : w.heap[bp]? = some (sparse size ao n cap mid)) (hR : RowO w ao l) (hl : l.length = n) (hn : n ≤ 100000) (hcap : n ≤ cap) (hz : ao = none → n = 0 ∧ cap = 0)
    (hsz : In64 size) (hin : ∀ r ∈ l, In64 r.1 ∧ In64 r.2) (htab : Lib.TabIs Tryd.prog w powN .u64 Lib.pow10Tab) :
    Calls Tryd.prog 16 #[.pointer (some ⟨bp, 0, none⟩)] w fun e w' => MapPost w (regsOf size l) e w' := by
  obtain ⟨s0, s1, sl⟩ := sparse_cells hS
  have HL : Hid _ := hl
  have HZ : Hid _ := hz
  have HS : Hid _ := hS
  have HSZ : Hid _ := hsz
  have HIN : Hid _ := hin
  have HT : Hid _ := htab
  clear hl hz hS hsz hin htab
  go_enter Tryd.func16, Tryd.ntmps16
  go_upto_region 3 with fail
  go_cut [39] (fun v39 W => v39 = .bool (hole size l) ∧ Ext w W)
  case first =>
    cases n with
    | zero =>
      obtain rfl := nil_len HL.out
      have q0 : ∀ m os, (grow (w.drewN m) os).cell? ⟨bp, 0, none⟩ = some (.int .i64 size) := fun m os => (Ext.cells (W := w) (w1 := grow (w.drewN m) os) ⟨m, os, rfl⟩).1 bp 0 sl |>.trans s0
      by_cases h0 : 0 < size
      · have HH : Hid (hole size [] = true) := decide_eq_true h0
        refine wp_region_quiet_grown follows (by kernel_rfl) ?_
        repeat (go_big_quiet_step (fail))
        refine wpQuiet_nil ?_
        intro _ hw'
        obtain ⟨⟨nq, osq⟩, hw''⟩ := hw'
        subst hw''
        go_wp2_with fail
        go_meet
        exact hole_t HH.out
      · have HH : Hid (hole size [] = false) := decide_eq_false h0
        refine wp_region_quiet_grown follows (by kernel_rfl) ?_
        repeat (go_big_quiet_step (fail))
        refine wpQuiet_nil ?_
        intro _ hw'
        obtain ⟨⟨nq, osq⟩, hw''⟩ := hw'
        subst hw''
        go_wp2_with fail
        go_meet
        exact hole_t HH.out
    | succ k =>
      obtain ⟨b, off, r, rfl, hRr, hx⟩ := hR.get (i := k) (by rw [HL.out]; omega)
      obtain ⟨a0, a1⟩ := hRr.quiet hx
      have hwb := hRr.1
      have q0 : ∀ m os, (grow (w.drewN m) os).cell? ⟨bp, 0, none⟩ = some (.int .i64 size) := fun m os => (Ext.cells (W := w) (w1 := grow (w.drewN m) os) ⟨m, os, rfl⟩).1 bp 0 sl |>.trans s0
      have HHL := hole_last (size := size) HL.out hx
      clear hx hRr
      generalize hm : k + 1 = m at *
      have hkm : (m : Int) - 1 = k := by omega
      have hmz : ((m : Int) == 0) = false := by simp; omega
      have hm0 : (0 : Int) < (m : Int) := by omega
      have hm1 : 0 < m := by omega
      have hm2 : m ≠ 0 := by omega
      have hkl : (k : Int) < (m : Int) := by omega
      have hkl2 : k < m := by omega
      clear hm
      by_cases h0 : endOf r < size
      · have HH : Hid (hole size l = true) := HHL.trans (decide_eq_true h0)
        clear HHL
        refine wp_region_quiet_grown follows (by kernel_rfl) ?_
        repeat (go_big_quiet_step (first | (go_at_call 24; refine Ext.grown (end_any r _))))
        refine wpQuiet_nil ?_
        intro _ hw'
        obtain ⟨⟨nq, osq⟩, hw''⟩ := hw'
        subst hw''
        go_wp2_with fail
        go_meet
        exact hole_t HH.out
      · have HH : Hid (hole size l = false) := HHL.trans (decide_eq_false h0)
        clear HHL
        refine wp_region_quiet_grown follows (by kernel_rfl) ?_
        repeat (go_big_quiet_step (first | (go_at_call 24; refine Ext.grown (end_any r _))))
        refine wpQuiet_nil ?_
        intro _ hw'
        obtain ⟨⟨nq, osq⟩, hw''⟩ := hw'
        subst hw''
        go_wp2_with fail
        go_meet
        exact hole_t HH.out
  case rest =>
    obtain ⟨rfl, hE⟩ := hcut
    have HE : Hid (Ext w wc) := hE
    generalize hhb : hole size l = hb at *
    have HHB : Hid (hole size l = hb) := hhb
    clear hhb hE
    go_upto_if 39 with fail
    go_cut [3] (fun v3 W => Regs w (regsOf size l) v3 W)
    case first =>
      cases hb with
      | false =>
        go_wp2_with fail
        go_meet
        exact regs_same HE.out hR HL.out HHB.out
      | true =>
        obtain ⟨i0, hi, hz0, hz1, hz2⟩ := info_parts info48
        have hEV : Ext w (wc.drew.alloc (box2 48 (size, 0))) := HE.out.drew.alloc _
        have hnews := enc_at (show (wc.drew.alloc (box2 48 (size, 0))).heap[wc.heap.size]? = some (box2 48 (size, 0)) from heap_alloc_new wc.drew _)
        have s0' := (HE.out.cells.1 bp 0 sl).trans s0
        have sl' := Nat.lt_of_lt_of_le sl HE.out.size
        have HEV : Hid (Ext w (wc.drew.alloc (box2 48 (size, 0)))) := hEV
        clear hEV s0 s1 sl
        cases ao with
        | none =>
          obtain ⟨rfl, rfl⟩ := HZ.out rfl
          obtain rfl := nil_len HL.out
          go_wp2_with fail
          go_region_law (refine step_append_grows (by rfl) (.tmp 43) (.tmp 49) 35 (by rfl) 48 i0 (.agg #[.int .i64 0, .int .i64 0]) 2 16 Tryd.underlying35 hi hz0 hz1 hz2 (by rfl) (by decide) none 0 0 [] (by rfl) (fun _ => ⟨rfl, rfl⟩) (by rfl) (fun _ h => by cases h) ⟨wc.heap.size, 0, none⟩ 1 1 (enc2 (size, 0)) (by rfl) (by rfl) hnews (enc2_one _) (by omega) (by unfold maxLen; omega) (by omega) ?_; intro v' w1 hown hgr)
          all_goals
            (go_wp2_with fail
             go_meet
             exact regs_new (n := 0) HEV.out rfl HHB.out hown hgr)
        | some a =>
          have b2 : (0 : Int) ≤ (n : Int) := by omega
          have b3 : (n : Int) ≤ (cap : Int) := by omega
          have b4 : ¬ ((cap : Int) < (n : Int)) := by omega
          have b5 : ¬ ((n : Int) < 0) := by omega
          have hold : ∀ b, some a = some b → ∀ j u, (flat l)[j]? = some u → (wc.drew.alloc (box2 48 (size, 0))).cell? (b.add j) = some u := by
            intro b hab j u hu
            rcases hR.ext HEV.out with h | ⟨b', off, e, hRr⟩
            · rw [h] at hu; simp [flat] at hu
            · injection hab with hab
              rw [← hab]
              injection e with e
              rw [e]
              exact hRr.flat j u hu
          have hfl : (flat l).length = n * 2 := by rw [flat_len, HL.out]
          go_wp2_with fail
          go_region_law (refine step_append_grows (by rfl) (.tmp 43) (.tmp 49) 35 (by rfl) 48 i0 (.agg #[.int .i64 0, .int .i64 0]) 2 16 Tryd.underlying35 hi hz0 hz1 hz2 (by rfl) (by decide) (some a) n n (flat l) (by rfl) (fun h => by cases h) hfl hold ⟨wc.heap.size, 0, none⟩ 1 1 (enc2 (size, 0)) (by rfl) (by rfl) hnews (enc2_one _) (by omega) (by unfold maxLen; omega) (by omega) ?_; intro v' w1 hown hgr)
          all_goals
            (go_wp2_with fail
             go_meet
             exact regs_new HEV.out HL.out HHB.out hown hgr)
    case rest =>
      obtain ⟨ao', cap', rfl, hRr, hbel⟩ := hcut
      have hNn : (regsOf size l).length ≤ n + 1 := by
        unfold regsOf
        split
        · rw [List.length_append, HL.out]; simp
        · rw [HL.out]; omega
      have hin2 : ∀ r ∈ regsOf size l, In64 r.1 ∧ In64 r.2 := by
        intro r hr
        unfold regsOf at hr
        split at hr
        · rcases List.mem_append.1 hr with h | h
          · exact HIN.out r h
          · rw [List.mem_singleton.1 h]
            exact ⟨HSZ.out, by unfold In64; simp⟩
        · exact HIN.out r hr
      have htb : Lib.TabBelow Tryd.prog wc.heap.size wc powN .u64 Lib.pow10Tab := fun w' hb => Lib.tabBelow_of_tabIs HT.out w' (hbel.trans (hb.mono hbel.size))
      have HTB : Hid (Lib.TabBelow Tryd.prog wc.heap.size wc powN .u64 Lib.pow10Tab) := htb
      have HIN2 : Hid _ := hin2
      have HBEL : Hid (Below w.heap.size w wc) := hbel
      have HRR : Hid (RowO wc ao' (regsOf size l)) := hRr
      clear htb hin2 hbel hRr s0 s1 sl hR HE
      generalize hrs : regsOf size l = rs at *
      have HRS : Hid (regsOf size l = rs) := hrs
      clear hrs
      obtain ⟨W0, hWe⟩ : ∃ W0 : World, W0 = wc := ⟨_, rfl⟩
      subst hWe
      generalize hN : rs.length = N at *
      have HN : Hid _ := hN
      clear hN
      have hlen := txt_len (N := N) (by omega) rs HIN2.out
      rw [HN.out] at hlen
      have hNi : In64 (N : Int) := by unfold In64; omega
      go_wp2_with fail
      refine (appInt W0.heap.size 0 (N : Int) hNi (.slice none 0 0) [] W0 (World.ownsRow_nil _ _ _ _) (Nat.le_refl _) (by omega) HTB.out).mono ?_
      rintro e w1 ⟨v1, rfl, hown1, hB1, hO1⟩
      have hit := Lib.itoa_length_le (N : Int) hNi.1 hNi.2
      obtain ⟨i5, hi5, hz0, hz1, hz2⟩ := info_parts info5
      have hown1' := hown1.alloc nlBox
      have hs1 := hB1.size
      go_wp2_with (at_builtin; refine wpList_append_lies _ rfl (.tmp 54) (.tmp 55) 25 rfl W0.heap.size 5 i5 (.int .u8 0) 1 1 Tryd.underlying25 hi5 hz0 hz1 hz2 rfl (by decide) v1 _ _ rfl hown1' ⟨w1.heap.size, 0, none⟩ 1 1 [.int .u8 10] rfl rfl (nl_news w1) nl_one (by decide) (by unfold maxLen; omega) (by omega) (by simp; omega) (w1.heap.size + 1) (by simp) ?_)
      intro g cp w2 hown2 hgr hat hlt2
      simp only [Nat.zero_add, List.nil_append] at hown1
      obtain ⟨hB2, hBo2, _⟩ := nl_step (t := Lib.itoa (N : Int)) hB1 hs1 hown1 rfl hown2 hgr
      have hM0 : MapS W0.heap.size W0 N rs 0 (.slice (some ⟨g, 0, none⟩) ((Lib.itoa (N : Int)).length + 1) cp) w2 := ⟨g, cp, by simp [txt], by simpa [txt] using hBo2, hB2⟩
      have HM0 : Hid (MapS W0.heap.size W0 N rs 0 (.slice (some ⟨g, 0, none⟩) ((Lib.itoa (N : Int)).length + 1) cp) w2) := hM0
      clear hM0 hown1 hown1' hown2 hgr hat hlt2 hB1 hB2 hBo2 hO1 hs1
      go_wp2
      go_loopw [59, 5] (fun v59 v5 W => ∃ k : Nat, k ≤ N ∧ v59 = .int .i64 k ∧ MapS W0.heap.size W0 N rs k v5 W) (fun v59 _ _ => N - (intOf v59).toNat)
      case atStart => exact ⟨0, by omega, rfl, HM0.out⟩
      case round =>
        obtain ⟨k, hk, rfl, g, cp, rfl, hBo, hbl⟩ := hrel
        clear HM0
        have hlk := txt_len (N := N) (by omega) (rs.take k) (fun r hr => HIN2.out r (List.mem_of_mem_take hr))
        rw [List.length_take] at hlk
        by_cases hlt : k < N
        · obtain ⟨b, off, x, rfl, hRr, hx⟩ := HRR.out.get (i := k) (by rw [HN.out]; exact hlt)
          have hbb := hRr.1
          obtain ⟨a0, a1⟩ := (hRr.of_below hbl hbb).2 k x hx
          have hwb := Nat.lt_of_lt_of_le hbb hbl.size
          have hxi := HIN2.out x (List.mem_of_getElem? hx)
          have HSN : Hid _ := txt_snoc (N := N) hx
          have i1 := Lib.itoa_length_le x.1 hxi.1.1 hxi.1.2
          have i2 := Lib.itoa_length_le x.2 hxi.2.1 hxi.2.2
          clear hx hRr
          generalize txt N (rs.take k) = T at *
          have hbV : Below W0.heap.size W0 (wr.alloc (box2 48 x)) := hbl.alloc hbl.size _
          have hoV : (wr.alloc (box2 48 x)).ownsRow W0.heap.size 5 1 (.slice (some ⟨g, 0, none⟩) T.length cp) T.length (Lib.byteCells T) := hBo.alloc _
          have hxV : (wr.alloc (box2 48 x)).heap[wr.heap.size]? = some (box2 48 x) := heap_alloc_new _ _
          have hca := appInt W0.heap.size T.length x.1 hxi.1 _ _ _ hoV (by have := hbV.size; omega) (by omega) (HTB.out.on hbV)
          have HCA : Hid (Calls Tryd.prog 25 #[.slice (some ⟨g, 0, none⟩) T.length cp, .int .i64 x.1, .int .i64 10] (wr.alloc (box2 48 x)) fun e w' => ∃ v', e = .returned v' ∧ w'.ownsRow W0.heap.size 5 1 v' (T.length + (Lib.itoa x.1).length) (Lib.byteCells T ++ Lib.byteCells (Lib.itoa x.1)) ∧ Below W0.heap.size (wr.alloc (box2 48 x)) w' ∧ Lib.OthersKept 5 none (wr.alloc (box2 48 x)) w') := hca
          have HXV : Hid _ := hxV
          have HBV : Hid (Below W0.heap.size W0 (wr.alloc (box2 48 x))) := hbV
          clear hca hoV hBo hxV hbV
          go_wp2_with fail
          refine HCA.out.mono ?_
          rintro e w1 ⟨v1, rfl, hown1, hB1, hO1⟩
          have hx1 := hO1 _ _ HXV.out (by simp) (fun c fz h => by simp [box2] at h)
          have hb1 := HBV.out.trans hB1
          have hs1 := hb1.size
          rw [← List.length_append, ← cells_app] at hown1
          have hL1 : (T ++ Lib.itoa x.1).length ≤ T.length + 21 := by rw [List.length_append]; omega
          generalize hT1 : T ++ Lib.itoa x.1 = T1 at *
          have HT1 : Hid _ := hT1
          clear hT1
          have hown1' := hown1.alloc nlBox
          go_wp2_with (at_builtin; refine wpList_append_lies _ rfl (.tmp 67) (.tmp 68) 25 rfl W0.heap.size 5 i5 (.int .u8 0) 1 1 Tryd.underlying25 hi5 hz0 hz1 hz2 rfl (by decide) v1 _ _ rfl hown1' ⟨w1.heap.size, 0, none⟩ 1 1 [.int .u8 10] rfl rfl (nl_news w1) nl_one (by decide) (by unfold maxLen; omega) (by omega) (by simp; omega) (w1.heap.size + 1) (by simp) ?_)
          intro g2 cp2 w2 hown2 hgr hat hlt2
          obtain ⟨hB2, hBo2, hkp2⟩ := nl_step hb1 hs1 hown1 rfl hown2 hgr
          have hx2 := hkp2 _ _ hx1 (fun c fz h => by simp [box2] at h)
          clear hown1 hown1' hown2 hgr hat hlt2 hB1 hO1 hs1 hx1 hkp2 a0 a1
          obtain ⟨b0, b1⟩ := boxed2 hx2
          have hbx := (Array.getElem?_eq_some_iff.1 hx2).1
          have hs2 := hB2.size
          have hBo2' : w2.ownsRow W0.heap.size 5 1 (.slice (some ⟨g2, 0, none⟩) (T1.length + 1) cp2) (T1 ++ [10]).length (Lib.byteCells (T1 ++ [10])) := hBo2
          have hL2 : (T1 ++ [10]).length ≤ T.length + 22 := by rw [List.length_append, List.length_singleton]; omega
          have HL2 : Hid ((T1 ++ [10]).length = T1.length + 1) := by show _ = _; simp
          generalize hT2 : T1 ++ [10] = T2 at *
          have HT2 : Hid _ := hT2
          clear hT2
          have hca2 := appInt W0.heap.size T2.length x.2 hxi.2 _ _ w2 hBo2' hs2 (by omega) (HTB.out.on hB2)
          have HCA2 : Hid (Calls Tryd.prog 25 #[.slice (some ⟨g2, 0, none⟩) (T1.length + 1) cp2, .int .i64 x.2, .int .i64 10] w2 fun e w' => ∃ v', e = .returned v' ∧ w'.ownsRow W0.heap.size 5 1 v' (T2.length + (Lib.itoa x.2).length) (Lib.byteCells T2 ++ Lib.byteCells (Lib.itoa x.2)) ∧ Below W0.heap.size w2 w' ∧ Lib.OthersKept 5 none w2 w') := hca2
          clear hca2 hBo2 hBo2'
          go_wp2_with fail
          refine HCA2.out.mono ?_
          rintro e w3 ⟨v3, rfl, hown3, hB3, hO3⟩
          have hb3 := hB2.trans hB3
          have hs3 := hb3.size
          rw [← List.length_append, ← cells_app] at hown3
          have hL3 : (T2 ++ Lib.itoa x.2).length ≤ T.length + 43 := by rw [List.length_append]; omega
          generalize hT3 : T2 ++ Lib.itoa x.2 = T3 at *
          have HT3 : Hid _ := hT3
          clear hT3
          have hown3' := hown3.alloc nlBox
          go_wp2_with (at_builtin; refine wpList_append_lies _ rfl (.tmp 74) (.tmp 75) 25 rfl W0.heap.size 5 i5 (.int .u8 0) 1 1 Tryd.underlying25 hi5 hz0 hz1 hz2 rfl (by decide) v3 _ _ rfl hown3' ⟨w3.heap.size, 0, none⟩ 1 1 [.int .u8 10] rfl rfl (nl_news w3) nl_one (by decide) (by unfold maxLen; omega) (by omega) (by simp; omega) (w3.heap.size + 1) (by simp) ?_)
          intro g4 cp4 w4 hown4 hgr hat hlt4
          obtain ⟨hB4, hBo4, _⟩ := nl_step hb3 hs3 hown3 rfl hown4 hgr
          have hM1 : MapS W0.heap.size W0 N rs (k + 1) (.slice (some ⟨g4, 0, none⟩) (T3.length + 1) cp4) w4 := by
            have e : txt N (rs.take (k + 1)) = T3 ++ [10] := HSN.out
            unfold MapS
            rw [e]
            exact ⟨g4, cp4, by rw [List.length_append]; rfl, hBo4, hB4⟩
          have HM1 : Hid (MapS W0.heap.size W0 N rs (k + 1) (.slice (some ⟨g4, 0, none⟩) (T3.length + 1) cp4) w4) := hM1
          clear hM1 hBo4 hB4 hown4 hgr hat hlt4 hown3 hown3' hB3 hO3 b0 b1 hx2
          go_wp2
          go_roundw
          case rel => exact ⟨k + 1, by omega, by go_num, HM1.out⟩
          case measure => simp [intOf]; omega
        · have htk : rs.take k = rs := by rw [show k = rs.length by rw [HN.out]; omega, List.take_length]
          rw [htk] at hBo hlk ⊢
          clear htk
          have hT0 : 0 < (txt N rs).length := by unfold txt; simp; omega
          have hpb := pad_and (txt N rs).length
          have hpl := padN_le (txt N rs).length
          have hbt := hBo.form hT0
          have hBo' : wr.ownsRow W0.heap.size 5 1 (.slice (some ⟨g, 0, none⟩) (txt N rs).length cp) (txt N rs).length (Lib.byteCells (txt N rs)) := hBo
          have HMB : Hid (mapB rs = txt N rs ++ List.replicate (padN (txt N rs).length) 0) := by show _ = _; unfold mapB pad; rw [HN.out]
          generalize padN (txt N rs).length = m at *
          generalize hT : txt N rs = T at *
          have HTT : Hid _ := hT
          clear hT hBo hbt
          obtain ⟨g', cp', w2, hrun, hown2, hgr⟩ := run_zeros wr W0.heap.size g T.length cp m (Lib.byteCells T) 25 hBo' (by omega) (by omega) (hbl.size)
          go_wp2_with (at_builtin; refine Lib.wpList_append_run _ rfl (.tmp 78) (.tmp 82) 25 3 rfl _ _ rfl rfl _ _ hrun ?_)
          have hb2 := hbl.grown hgr hbl.size (fun j hj => own_ge hBo' j (by simpa [Value.ownBlock] using hj))
          have HF : Hid (MapPost w rs (.returned (.slice (some ⟨g', 0, none⟩) (T.length + m) cp')) w2) := by
            refine ⟨g', cp', ?_, ?_, HBEL.out.trans (hb2.mono HBEL.out.size)⟩
            · rw [HMB.out, List.length_append, List.length_replicate]
            · rw [HMB.out, List.length_append, List.length_replicate, cells_app]
              have hz : Lib.byteCells (List.replicate m (0 : UInt8)) = List.replicate m (Value.int .u8 0) := by simp [Lib.byteCells]
              rw [hz]
              obtain ⟨h1, h2⟩ := hown2
              refine ⟨h1, ?_⟩
              rcases h2 with h2 | ⟨g3, c3, cur, hv, hbg, r⟩
              · exact Or.inl h2
              · exact Or.inr ⟨g3, c3, cur, hv, Nat.le_trans HBEL.out.size hbg, r⟩
          clear hrun hown2 hgr hb2 hBo'
          go_wp2
          go_ret
          rw [HRS.out]
          exact HF.out
end Go.Proofs.Qxb6618064aDoor
