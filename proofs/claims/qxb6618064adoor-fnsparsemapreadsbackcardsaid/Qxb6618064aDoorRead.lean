/- readMap. -/
import Derived.Test.Qxb6618064aDoorDec
import Derived.Test.Qxb6618064aDoorMain
set_option linter.unusedVariables false
namespace Go.Proofs.Qxb6618064aDoor
open Go.RowKit Go.Sort

theorem rd_any (g n cp : Nat) (t : List UInt8) (pos e : Nat) (z : Int) (w : World) (hz : In64 z) (hn : n ≤ 100000000) (hR : RowB w g 0 t) (he : e ≤ n) (hat : ∀ (j : Nat) b, (Lib.itoa z ++ [10])[j]? = some b → t[pos + j]? = some b) (hfit : pos + (Lib.itoa z).length + 1 ≤ e) :
    Calls Tryd.prog 26 #[.slice (some ⟨g, 0, none⟩) n cp, .int .i64 pos, .int .i64 e] w fun r w' => r = .returned (.tuple #[.int .i64 z, .int .i64 ((pos + (Lib.itoa z).length + 1 : Nat) : Int), .bool true]) ∧ w' = w := by
  have cell : ∀ (j : Nat) b, (Lib.itoa z ++ [10])[j]? = some b → w.cell? ⟨g, pos + j, none⟩ = some (.int .u8 b.toNat) := fun j b hj => by
    have := hR.2 (pos + j) b (hat j b hj)
    rwa [Nat.zero_add] at this
  unfold In64 at hz
  by_cases hneg : z < 0
  · obtain ⟨u, rfl⟩ : ∃ u : Nat, z = -(u : Int) := ⟨z.natAbs, by omega⟩
    have hi := Lib.itoa_neg u (by omega)
    rw [hi] at cell hfit ⊢
    have hD : Digs w g (pos + 1) u := by
      refine ⟨hR.1, fun j b hj => ?_, ?_⟩
      · have h1 := cell (j + 1) b (by
          rw [List.cons_append, List.getElem?_cons_succ, List.getElem?_append_left (List.getElem?_eq_some_iff.1 hj).1]
          exact hj)
        rwa [show pos + (j + 1) = pos + 1 + j by omega] at h1
      · have h1 := cell ((Lib.decDigits u).length + 1) 10 (by
          rw [List.cons_append, List.getElem?_cons_succ, List.getElem?_append_right (Nat.le_refl _), Nat.sub_self]
          rfl)
        rwa [show pos + ((Lib.decDigits u).length + 1) = pos + 1 + (Lib.decDigits u).length by omega] at h1
    have hs := cell 0 45 rfl
    rw [Nat.add_zero] at hs
    simp only [List.length_cons] at hfit ⊢
    refine (rd_neg g n cp pos (pos + 1) u e (Lib.decDigits u).length w hn hD rfl he (by omega) (by omega) (by omega) hs rfl).mono ?_
    rintro r w' ⟨rfl, hw⟩
    refine ⟨?_, hw⟩
    rw [show pos + 1 + (Lib.decDigits u).length + 1 = pos + ((Lib.decDigits u).length + 1) + 1 by omega]
  · obtain ⟨u, rfl⟩ : ∃ u : Nat, z = (u : Int) := ⟨z.toNat, by omega⟩
    have hi := Lib.itoa_nonneg u
    rw [hi] at cell hfit ⊢
    have hD : Digs w g pos u := by
      refine ⟨hR.1, fun j b hj => ?_, ?_⟩
      · exact cell j b (by
          rw [List.getElem?_append_left (List.getElem?_eq_some_iff.1 hj).1]
          exact hj)
      · exact cell (Lib.decDigits u).length 10 (by
          rw [List.getElem?_append_right (Nat.le_refl _), Nat.sub_self]
          rfl)
    exact rd_pos g n cp pos pos u e (Lib.decDigits u).length w hn hD rfl he (by omega) (by omega) rfl

/-! the text, piece by piece -/
theorem txt_pre {N : Nat} {rs : List A2} (k : Nat) : txt N rs = txt N (rs.take k) ++ (rs.drop k).flatMap line := by
  unfold txt
  rw [List.append_assoc (Lib.itoa (N : Int) ++ [10]), ← List.flatMap_append, List.take_append_drop]
theorem txt_at {N : Nat} {rs : List A2} {k : Nat} {x : A2} (hx : rs[k]? = some x) : ∃ r, txt N rs = txt N (rs.take k) ++ (line x ++ r) := by
  refine ⟨(rs.drop (k + 1)).flatMap line, ?_⟩
  rw [txt_pre k]
  congr 1
  have hk := (List.getElem?_eq_some_iff.1 hx).1
  have e : rs.drop k = x :: rs.drop (k + 1) := by
    rw [List.drop_eq_getElem_cons hk]
    congr 1
    exact (List.getElem?_eq_some_iff.1 hx).2
  rw [e]
  rfl
theorem mapB_at {rs : List A2} {j : Nat} {b : UInt8} (h : (txt rs.length rs)[j]? = some b) : (mapB rs)[j]? = some b := by
  unfold mapB pad
  rw [List.getElem?_append_left (List.getElem?_eq_some_iff.1 h).1]
  exact h
theorem mapB_zero {rs : List A2} {j : Nat} (h1 : (txt rs.length rs).length ≤ j) (h2 : j < (mapB rs).length) : (mapB rs)[j]? = some 0 := by
  unfold mapB pad at h2 ⊢
  rw [List.length_append, List.length_replicate] at h2
  rw [List.getElem?_append_right h1, List.getElem?_replicate, if_pos (by omega)]
theorem mapB_tail (rs : List A2) : (txt rs.length rs).length ≤ (mapB rs).length ∧ (mapB rs).length - (txt rs.length rs).length ≤ 511 := by
  have h := padN_le (txt rs.length rs).length
  unfold mapB pad
  rw [List.length_append, List.length_replicate]
  omega
theorem txt_last (N : Nat) (rs : List A2) : ∃ T', txt N rs = T' ++ [10] := by
  cases h : rs.length with
  | zero =>
    rw [nil_len h]
    exact ⟨Lib.itoa N, by simp [txt]⟩
  | succ k =>
    have hx : rs[k]? = some (rs[k]'(by omega)) := List.getElem?_eq_getElem _
    have := txt_snoc (N := N) hx
    rw [show k + 1 = rs.length by omega, List.take_length] at this
    exact ⟨_, this⟩
theorem line_first {x : A2} {r : List UInt8} : ∀ (j : Nat) b, (Lib.itoa x.1 ++ [10])[j]? = some b → (line x ++ r)[j]? = some b := by
  intro j b h
  have hj := (List.getElem?_eq_some_iff.1 h).1
  unfold line
  rw [List.append_assoc, List.getElem?_append_left hj]
  exact h
theorem line_second {x : A2} {r : List UInt8} : ∀ (j : Nat) b, (Lib.itoa x.2 ++ [10])[j]? = some b → (line x ++ r)[(Lib.itoa x.1).length + 1 + j]? = some b := by
  intro j b h
  have hj := (List.getElem?_eq_some_iff.1 h).1
  unfold line
  rw [List.append_assoc, List.getElem?_append_right (by simp only [List.length_append, List.length_singleton]; omega), List.getElem?_append_left (by simp only [List.length_append, List.length_singleton] at hj ⊢; omega)]
  simp only [List.length_append, List.length_singleton]
  rw [show (Lib.itoa x.1).length + 1 + j - ((Lib.itoa x.1).length + 1) = j by omega]
  exact h
def GotR (B : Nat) (w : World) (k : Nat) (rs : List A2) (v : Value) (W : World) : Prop := ∃ xs, W.ownsRow B 33 2 v k xs ∧ (∀ i x, (rs.take k)[i]? = some x → xs[i * 2]? = some (.int .i64 x.1) ∧ xs[i * 2 + 1]? = some (.int .i64 x.2)) ∧ Below B w W
theorem got_form {B k : Nat} {W : World} {v : Value} {xs : List Value} {rs : List A2} (hown : W.ownsRow B 33 2 v k xs) (hl : rs.length = k) (hxs : ∀ i x, rs[i]? = some x → xs[i * 2]? = some (.int .i64 x.1) ∧ xs[i * 2 + 1]? = some (.int .i64 x.2)) : ∃ ao cap, v = .slice ao k cap ∧ RowO W ao rs := by
  rcases hown.2 with ⟨rfl, h0⟩ | ⟨g, cap, cur, rfl, _⟩
  · subst h0
    exact ⟨none, 0, rfl, Or.inl (nil_len hl)⟩
  · exact ⟨_, cap, rfl, Or.inr ⟨g, 0, rfl, (BufA.of_own hown hxs).row⟩⟩
def ReadPost (w : World) (rs : List A2) (e : Ending) (W : World) : Prop := ∃ ao cap, e = .returned (.tuple #[.slice ao rs.length cap, .bool true]) ∧ RowO W ao rs ∧ Below w.heap.size w W

set_option maxRecDepth 100000 in
set_option maxHeartbeats 2000000 in
theorem read_any (g cp L : Nat) (rs : List A2) (w : World) (hN : rs.length ≤ 100000) (hin : ∀ r ∈ rs, In64 r.1 ∧ In64 r.2) (hR : RowB w g 0 (mapB rs)) (hL : (mapB rs).length = L) :
    Calls Tryd.prog 19 #[.slice (some ⟨g, 0, none⟩) L cp] w fun e w' => ReadPost w rs e w' := by
  obtain ⟨i0, hi, hz0, hz1, hz2⟩ := info_parts info33
  have hLb := mapB_le rs (by omega) hin
  obtain ⟨p0, p1⟩ := mapB_len rs
  obtain ⟨t1, t2⟩ := mapB_tail rs
  obtain ⟨T', hT'⟩ := txt_last rs.length rs
  rw [hL] at hLb p0 p1 t1 t2
  have HIN : Hid _ := hin
  have HL : Hid _ := hL
  have hTp : 0 < (txt rs.length rs).length := by rw [hT']; simp
  have cz : ∀ j, (txt rs.length rs).length ≤ j → j < L → w.cell? ⟨g, j, none⟩ = some (.int .u8 0) := fun j h1 h2 => by
    have := hR.2 j 0 (mapB_zero h1 (by rw [hL]; exact h2))
    rwa [Nat.zero_add] at this
  have c10 : w.cell? ⟨g, (txt rs.length rs).length - 1, none⟩ = some (.int .u8 10) := by
    have := hR.2 ((txt rs.length rs).length - 1) 10 (mapB_at (by rw [hT']; simp))
    rwa [Nat.zero_add] at this
  have HCZ : Hid _ := cz
  have hgl := hR.1
  have q0 : ((L : Int) == 0) = false := beq_no (by omega)
  have q1 : (L : Int).tmod 512 = 0 := by
    have : (L : Int).tmod 512 = ((L % 512 : Nat) : Int) := rfl
    rw [this, p1]
    rfl
  generalize hTL : (txt rs.length rs).length = TL at *
  have HTL : Hid _ := hTL
  clear hTL hin hL p1 cz hT'
  go_enter Tryd.func19, Tryd.ntmps19
  go_wp2
  go_loopw [4] (fun v4 W => W = w ∧ ∃ t : Nat, v4 = .int .i64 t ∧ TL ≤ t ∧ t ≤ L) (fun v4 _ => (intOf v4).toNat)
  case atStart => exact ⟨rfl, L, rfl, t1, Nat.le_refl _⟩
  case round =>
    obtain ⟨rfl, t, rfl, h1, h2⟩ := hrel
    have s1 : (0 : Int) < (t : Int) := by omega
    have s2 : 0 < t := by omega
    obtain ⟨t', ht'⟩ : ∃ t', t' = t - 1 := ⟨_, rfl⟩
    have s3 : (t : Int) - 1 = t' := by omega
    have s4 : (t' : Int) < (L : Int) := by omega
    have s5 : t' < L := by omega
    by_cases hgt : TL < t
    · have cc := HCZ.out t' (by omega) (by omega)
      clear ht'
      go_wp2
      go_roundw
      case rel => exact ⟨trivial, t', rfl, by omega, by omega⟩
      case measure => simp [intOf]; omega
    · obtain rfl : TL = t := by omega
      rw [← ht'] at c10
      clear ht'
      have s6 : ¬ ((512 : Int) ≤ (L : Int) - (TL : Int)) := by omega
      have HM : Hid (∀ (j : Nat) b, (txt rs.length rs)[j]? = some b → (mapB rs)[j]? = some b) := fun j b h => mapB_at h
      have HRow : Hid (RowB wr g 0 (mapB rs)) := hR
      generalize hNN : rs.length = N at *
      have HNN : Hid _ := hNN
      clear hNN hR
      have hN64 : In64 (N : Int) := by unfold In64; omega
      have h0len : (Lib.itoa (N : Int)).length + 1 ≤ TL := by
        have := HTL.out
        unfold txt at this
        simp only [List.length_append, List.length_singleton] at this
        omega
      have hr0 := rd_any g L cp (mapB rs) 0 TL (N : Int) wr hN64 hLb HRow.out h2 (fun j b hj => by
        rw [Nat.zero_add]
        refine HM.out j b ?_
        unfold txt
        rw [List.getElem?_append_left (List.getElem?_eq_some_iff.1 hj).1]
        exact hj) (by omega)
      have HR0 : Hid (Calls Tryd.prog 26 #[.slice (some ⟨g, 0, none⟩) L cp, .int .i64 0, .int .i64 TL] wr fun r w' => r = .returned (.tuple #[.int .i64 N, .int .i64 ((0 + (Lib.itoa (N : Int)).length + 1 : Nat) : Int), .bool true]) ∧ w' = wr) := hr0
      clear hr0
      go_wp2_with fail
      refine HR0.out.mono ?_
      rintro e w1 ⟨rfl, rfl⟩
      have hP0 : 0 + (Lib.itoa (N : Int)).length + 1 = (txt N (rs.take 0)).length := by simp [txt]
      rw [hP0]
      clear hP0 HR0
      generalize hPP : (txt N (rs.take 0)).length = P0
      have HP0 : Hid _ := hPP
      clear hPP
      go_wp2
      go_loopw [9, 6, 8] (fun v9 v6 v8 W => ∃ k p : Nat, k ≤ N ∧ v9 = .int .i64 k ∧ v6 = .int .i64 p ∧ Hid (p = (txt N (rs.take k)).length) ∧ GotR w1.heap.size w1 k rs v8 W) (fun v9 _ _ _ => N - (intOf v9).toNat)
      case atStart => exact ⟨0, P0, by omega, rfl, rfl, HP0.out.symm, [], World.ownsRow_nil _ _ _ _, fun i x h => by simp at h, Below.refl _ _⟩
      case round =>
        obtain ⟨k, p, hk, rfl, rfl, hp, xs, hown, hxs, hbl⟩ := hrel
        have hRw := HRow.out.of_below hbl HRow.out.1
        by_cases hlt : k < N
        · have hx : rs[k]? = some (rs[k]'(by rw [HNN.out]; exact hlt)) := List.getElem?_eq_getElem _
          generalize rs[k]'(by rw [HNN.out]; exact hlt) = x at hx
          obtain ⟨rr, htx⟩ := txt_at (N := N) hx
          have hxi := HIN.out x (List.mem_of_getElem? hx)
          have hsn := txt_snoc (N := N) hx
          have hll : p + (line x).length ≤ TL := by
            have h1 := HTL.out
            rw [htx, List.length_append, List.length_append] at h1
            rw [hp.out]
            omega
          have hln : (line x).length = (Lib.itoa x.1).length + 1 + ((Lib.itoa x.2).length + 1) := by unfold line; simp; omega
          have hat : ∀ (j : Nat) b, (line x ++ rr)[j]? = some b → (mapB rs)[p + j]? = some b := fun j b hj => by
            refine HM.out _ b ?_
            rw [htx, List.getElem?_append_right (by rw [hp.out]; omega), show p + j - (txt N (rs.take k)).length = j by rw [hp.out]; omega]
            exact hj
          have hr1 := rd_any g L cp (mapB rs) p TL x.1 wr hxi.1 hLb hRw h2 (fun j b hj => hat j b (line_first j b hj)) (by omega)
          have hr2 := rd_any g L cp (mapB rs) (p + (Lib.itoa x.1).length + 1) TL x.2 wr hxi.2 hLb hRw h2 (fun j b hj => by
            have := hat _ b (line_second (r := rr) j b hj)
            rwa [show p + ((Lib.itoa x.1).length + 1 + j) = p + (Lib.itoa x.1).length + 1 + j by omega] at this) (by omega)
          have HP2 : Hid (p + (Lib.itoa x.1).length + 1 + (Lib.itoa x.2).length + 1 = (txt N (rs.take (k + 1))).length) := by
            show _ = _
            rw [hsn, hp.out]
            simp
            omega
          have hpl : (p : Int) < (TL : Int) := by omega
          have hpl2 : ¬ ((TL : Int) ≤ (p : Int)) := by omega
          generalize hp1 : p + (Lib.itoa x.1).length + 1 = p1 at *
          generalize hp2 : p1 + (Lib.itoa x.2).length + 1 = p2 at *
          have HR1 : Hid (Calls Tryd.prog 26 #[.slice (some ⟨g, 0, none⟩) L cp, .int .i64 p, .int .i64 TL] wr fun r w' => r = .returned (.tuple #[.int .i64 x.1, .int .i64 p1, .bool true]) ∧ w' = wr) := hr1
          have HR2 : Hid (Calls Tryd.prog 26 #[.slice (some ⟨g, 0, none⟩) L cp, .int .i64 p1, .int .i64 TL] wr fun r w' => r = .returned (.tuple #[.int .i64 x.2, .int .i64 p2, .bool true]) ∧ w' = wr) := hr2
          have HXS : Hid _ := hxs
          have HX : Hid _ := hx
          clear hr1 hr2 hp1 hp2 hat hln hll hsn htx hxs hx
          have hlen : (rs.take k).length = k := by rw [List.length_take, HNN.out]; omega
          have HLEN : Hid _ := hlen
          clear hlen
          go_wp2_with fail
          refine HR1.out.mono ?_
          rintro e w2 ⟨rfl, rfl⟩
          go_wp2_with fail
          refine HR2.out.mono ?_
          rintro e w3 ⟨rfl, rfl⟩
          have hown1 := hown.alloc (box2 33 x)
          have hnews := news2 33 w3 x
          have hone := enc2_one x
          have hs1 := hbl.size
          go_wp2_with (at_builtin; refine wpList_append_lies _ rfl (.tmp 85) (.tmp 89) 29 rfl w1.heap.size 33 i0 (.agg #[.int .i64 0, .int .i64 0]) 2 16 Tryd.underlying29 hi hz0 hz1 hz2 rfl (by decide) _ _ _ rfl hown1 ⟨w3.heap.size, 0, none⟩ 1 1 (enc2 x) rfl rfl hnews hone (by decide) (by unfold maxLen; omega) (by omega) (by simp; omega) (w3.heap.size + 1) (by simp) ?_)
          intro g4 cp4 w4 hown4 hgr hat4 hlt4
          have hG : GotR w1.heap.size w1 (k + 1) rs (.slice (some ⟨g4, 0, none⟩) (k + 1) cp4) w4 := by
            refine ⟨xs ++ enc2 x, hown4, ?_, ?_⟩
            · rw [List.take_add_one, HX.out]
              exact snoc_cells (z := x) (by rw [HLEN.out]; exact hown.1) HXS.out
            · have hb1 : Below w1.heap.size w1 (w3.alloc (box2 33 x)) := hbl.alloc hs1 _
              exact hb1.grown hgr (by simp; omega) (own_ge hown)
          have HG : Hid (GotR w1.heap.size w1 (k + 1) rs (.slice (some ⟨g4, 0, none⟩) (k + 1) cp4) w4) := hG
          clear hG hown4 hgr hat4 hlt4 hown1 hnews hone hown
          go_wp2
          go_roundw
          case rel => exact ⟨k + 1, p2, by omega, by go_num, rfl, HP2.out, HG.out⟩
          case measure => simp [intOf]; omega
        · obtain rfl : N = k := by omega
          have htk : rs.take N = rs := by rw [← HNN.out, List.take_length]
          rw [htk] at hxs
          have hpT : p = TL := by rw [hp.out, htk]; exact HTL.out
          subst hpT
          obtain ⟨ao, cap', rfl, hrow⟩ := got_form hown HNN.out hxs
          have HF : Hid (ReadPost w1 rs (.returned (.tuple #[.slice ao N cap', .bool true])) wr) := by
            refine ⟨ao, cap', ?_, hrow, hbl⟩
            rw [HNN.out]
          clear hxs hrow hown htk
          go_wp2
          exact bodyPost_ret (v := .tuple #[.slice ao N cap', .bool true]) (by simp [results, Tryd.results19, go_sem]) rfl HF.out
end Go.Proofs.Qxb6618064aDoor
