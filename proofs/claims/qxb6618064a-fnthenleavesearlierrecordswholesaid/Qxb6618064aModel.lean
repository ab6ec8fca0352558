/- mergeModel: the last values first, then the first places. -/
import Derived.Test.Qxb6618064aMap
set_option linter.unusedVariables false
namespace Go.Proofs.Qxb6618064a
open Go.RowKit Go.Sort Go.Maps Go.WideShapes Go.ChangeShapes Go.WideMaps Plain

theorem zero9 (w : World) : (zeroValue 9).run Try.prog w = .ok (.string ByteArray.empty) w := by kernel_rfl
theorem zero4 (w : World) : (zeroValue 4).run Try.prog w = .ok (.bool false) w := by kernel_rfl
theorem zero3 (w : World) : (zeroValue 3).run Try.prog w = .ok (.int .i64 0) w := by kernel_rfl
def lastF (l : List A2) (s : ByteArray) : Option Lit := (lastV l s).map keyL
def seenF (l : List A2) (s : ByteArray) : Option Lit := if (lastV l s).isSome then some (.bool true) else none
theorem seen_iff (l : List A2) (s : ByteArray) : (lastV l s).isSome = true ↔ s ∈ firsts l := by
  cases h : lastV l s with
  | none => simp; exact (lastV_none l s).1 h
  | some v =>
    simp
    apply Classical.byContradiction
    intro hc
    rw [(lastV_none l s).2 hc] at h
    cases h
def outL (l p : List A2) : List A2 := (firsts p).map fun nm => (nm, lv l nm)
theorem take_snoc {l : List A2} {k : Nat} {x : A2} (hx : l[k]? = some x) : l.take (k + 1) = l.take k ++ [x] := by
  rw [List.take_add_one, hx]; rfl
theorem lastF_snoc (l : List A2) (x : A2) (s : ByteArray) : (if s = x.1 then some (keyL x.2) else lastF l s) = lastF (l ++ [x]) s := by
  unfold lastF
  rw [lastV_snoc]
  by_cases h : s = x.1
  · rw [if_pos h, if_pos h.symm]; rfl
  · rw [if_neg h, if_neg (fun e => h e.symm)]
theorem lastF_some (l : List A2) (s : ByteArray) : (lastF l s).isSome = true ↔ s ∈ firsts l := by
  unfold lastF
  rw [Option.isSome_map]
  cases h : lastV l s with
  | none => simp; exact (lastV_none l s).1 h
  | some v =>
    simp
    apply Classical.byContradiction
    intro hc
    rw [(lastV_none l s).2 hc] at h
    cases h
theorem firsts_cnt (l : List A2) (x : A2) {b : Bool} (hb : b = true ↔ x.1 ∈ firsts l) : (if b then (firsts l).length else (firsts l).length + 1) = (firsts (l ++ [x])).length := by
  rw [firsts_snoc]
  by_cases h : x.1 ∈ firsts l
  · rw [if_pos h, if_pos (hb.2 h)]
  · rw [if_neg h, if_neg (fun e => h (hb.1 e))]; simp
theorem seenF_snoc (l : List A2) (x : A2) (s : ByteArray) : (if s = x.1 then some (Lit.bool true) else seenF l s) = seenF (l ++ [x]) s := by
  unfold seenF
  have hiff1 := seen_iff (l ++ [x]) s
  have hiff2 := seen_iff l s
  have : s ∈ firsts (l ++ [x]) ↔ s = x.1 ∨ s ∈ firsts l := by
    rw [firsts_snoc]
    split
    · constructor
      · exact Or.inr
      · rintro (h | h)
        · rw [h]; assumption
        · exact h
    · rw [List.mem_append, List.mem_singleton]; exact Or.comm
  by_cases h : s = x.1
  · rw [if_pos h, if_pos (hiff1.2 (this.2 (Or.inl h)))]
  · rw [if_neg h]
    by_cases h2 : s ∈ firsts l
    · rw [if_pos (hiff2.2 h2), if_pos (hiff1.2 (this.2 (Or.inr h2)))]
    · rw [if_neg (fun e => h2 (hiff2.1 e)), if_neg (fun e => (this.1 (hiff1.1 e)).elim h h2)]
theorem seenF_true (l : List A2) (s : ByteArray) : ∀ t, seenF l s = some t → t = .bool true := by
  intro t h
  unfold seenF at h
  split at h
  · injection h with h; exact h.symm
  · cases h
theorem seenF_some (l : List A2) (s : ByteArray) : (seenF l s).isSome = true ↔ s ∈ firsts l := by
  rw [← seen_iff]
  unfold seenF
  cases (lastV l s).isSome <;> simp
theorem lastF_at {l : List A2} {k : Nat} {x : A2} (hx : l[k]? = some x) : lastF l x.1 = some (keyL (lv l x.1)) := by
  have hm : x.1 ∈ firsts l := (mem_firsts l x.1).2 ⟨x.2, List.mem_of_getElem? hx⟩
  unfold lastF lv
  cases h : lastV l x.1 with
  | none => exact absurd hm ((lastV_none l x.1).1 h)
  | some v => rfl
theorem outL_new {l p : List A2} {x : A2} (h : x.1 ∉ firsts p) : outL l (p ++ [x]) = outL l p ++ [(x.1, lv l x.1)] := by
  unfold outL
  rw [firsts_snoc, if_neg h, List.map_append]
  rfl
theorem outL_old {l p : List A2} {x : A2} (h : x.1 ∈ firsts p) : outL l (p ++ [x]) = outL l p := by
  unfold outL
  rw [firsts_snoc, if_pos h]
theorem outL_len (l p : List A2) : (outL l p).length = (firsts p).length := by simp [outL]
theorem outL_self (l : List A2) : outL l l = mergeL l := rfl
theorem firsts_le (l : List A2) : (firsts l).length ≤ l.length := by
  induction l using snoc_ind with
  | h0 => simp [firsts]
  | h1 l a ih => rw [firsts_snoc]; split <;> simp <;> omega
theorem firsts_take_le (l : List A2) (k : Nat) : (firsts (l.take k)).length ≤ (firsts l).length := by
  have := firsts_append (l.take k) (l.drop k)
  rw [List.take_append_drop] at this
  rw [this, List.length_append]
  omega
theorem run_mk {t e : TypeId} (ht : Try.prog.underlying t = some (.map 9 e)) (n : Nat) (w : World) : (Instr.makeMap t (some (.int .i64 n))).run Try.prog w = .ok (.map (some w.heap.size)) (w.alloc (.map #[] 0)) := by
  simp [Instr.makeMap, run_underlying ht, asInt, asIntOf, Result.andThen]
theorem MapL.run_len {e t : TypeId} {w : World} {b n c : Nat} {f : ByteArray → Option Lit} (h : MapL e w b n c f) (ht : Try.prog.underlying t = some (.map 9 e)) (ty : TypeId) : (Builtin.len_ #[t] ty #[.map (some b)]).run Try.prog w = .ok (.int .i64 c) w := by
  obtain ⟨D, hD, hc, hf⟩ := h
  rw [← hc]
  exact hD.len ht ty

theorem wpList_len_L (w : World) {ops : Array Oper} {rest : List Oper} {o : Oper} {a : Act} {Q : Exit → Act → World → Prop} (hg : o.guard = none) (m : Operand) (t : TypeId) (hop : o.op = Op.call { callee := Callee.builtin Builtin.len, args := #[m], argTypes := #[t] })
    (e : TypeId) (ht : Try.prog.underlying t = some (.map 9 e)) (b n c : Nat) (f : ByteArray → Option Lit) (hm : a.eval m = .map (some b)) (hown : MapL e w b n c f)
    (hK : wpList Try.prog ops Q rest (a.put o.dst (.int .i64 c)) w) : wpList Try.prog ops Q (o :: rest) a w := by
  obtain ⟨D, hD, hc, hf⟩ := hown
  refine wpList_len_own w hg m t hop 9 e ht _ b n D hm hD ?_
  rw [hc]
  exact hK
theorem turned_block {w w' : World} {b b' : Nat} (h : w.mapTurned w' b) (hb : b' < w.heap.size) (hne : b' ≠ b) : w'.heap[b']? = w.heap[b']? := by
  obtain ⟨_, _, _, _, h5⟩ := h.grown
  exact h5 b' hb (by simpa using hne)

/-- the world of mergeModel's second loop -/
structure MS (w S W : World) (n m k : Nat) (l : List A2) : Prop where
  last : ∃ c, MapL 9 W w.heap.size n c (lastF l)
  seen : MapL 4 W S.heap.size k (firsts (l.take k)).length (seenF (l.take k))
  buf : BufA 51 W (S.heap.size + 1) m (outL l (l.take k))
  below : Below w.heap.size w W
  lt : w.heap.size < S.heap.size
theorem MS.start {w S : World} {n m c : Nat} {l : List A2} (hE : Ext w S) (hM : MapL 9 S w.heap.size n c (lastF l)) :
    MS w S ((S.alloc (.map #[] 0)).alloc (.cells (made2 m) 51)) n m 0 l := by
  have hE1 : Ext S (S.alloc (.map #[] 0)) := (Ext.refl S).alloc _
  refine ⟨⟨c, hM.ext (hE1.alloc _)⟩, ?_, BufA.made ?_, (hE.trans (hE1.alloc _)).below, hM.lt⟩
  · exact ((MapL.made 4 S).ext ((Ext.refl _).alloc _)).congr rfl (fun s => by simp [seenF, lastV])
  · have : (S.alloc (.map #[] 0)).heap.size = S.heap.size + 1 := by simp
    rw [← this]
    exact heap_alloc_new _ _
theorem MS.old {w S W : World} {n m k : Nat} {l : List A2} (h : MS w S W n m k l) {x : A2} (hx : l[k]? = some x) (ho : x.1 ∈ firsts (l.take k)) : MS w S W n m (k + 1) l := by
  have hf : firsts (l.take (k + 1)) = firsts (l.take k) := by rw [take_snoc hx, firsts_snoc, if_pos ho]
  refine ⟨h.last, ?_, ?_, h.below, h.lt⟩
  · exact (h.seen.mono (Nat.le_succ k)).congr (by rw [hf]) (fun s => by unfold seenF; rw [Bool.eq_iff_iff.2 ((seen_iff (l.take k) s).trans ((by rw [hf]) : s ∈ firsts (l.take k) ↔ s ∈ firsts (l.take (k + 1))) |>.trans (seen_iff (l.take (k + 1)) s).symm)])
  · rw [take_snoc hx, outL_old ho]; exact h.buf
theorem MS.new {w S W W1 W2 : World} {n m k : Nat} {l : List A2} (h : MS w S W n m k l) {x : A2} (hx : l[k]? = some x) (ho : x.1 ∉ firsts (l.take k))
    (hT : W.mapTurned W1 S.heap.size) (hM : MapL 4 W1 S.heap.size (k + 1) (if (seenF (l.take k) x.1).isSome then (firsts (l.take k)).length else (firsts (l.take k)).length + 1) (fun t => if t = x.1 then some (.bool true) else seenF (l.take k) t))
    (hB : BufA 51 W2 (S.heap.size + 1) m (outL l (l.take k) ++ [(x.1, lv l x.1)])) (hg : (W1.alloc (box2 51 (x.1, lv l x.1))).grownBy W2 (some (S.heap.size + 1))) : MS w S W2 n m (k + 1) l := by
  obtain ⟨c, hL⟩ := h.last
  have hb := h.buf.lt
  have hlt := h.lt
  have hsz : W1.heap.size = W.heap.size := by
    obtain ⟨_, _, _, _, _, rfl⟩ := hT
    exact Array.size_setIfInBounds
  have hkeep : ∀ b, b < W1.heap.size → b ≠ S.heap.size + 1 → W2.heap[b]? = W1.heap[b]? := fun b hb1 hne => by
    obtain ⟨_, _, _, _, h5⟩ := hg
    rw [h5 b (by simp; omega) (by simpa using hne)]
    exact Below.heap_alloc W1 _ b hb1
  refine ⟨⟨c, (hL.block (turned_block hT (by omega) (by omega))).block (hkeep _ (by omega) (by omega))⟩, ?_, ?_, ?_, h.lt⟩
  · refine (hM.block (hkeep _ (by omega) (by omega))).congr ?_ (fun s => ?_)
    · rw [take_snoc hx]; exact firsts_cnt _ _ (seenF_some _ _)
    · rw [take_snoc hx]; exact seenF_snoc _ _ _
  · rw [take_snoc hx, outL_new ho]; exact hB
  · exact ((h.below.grown hT.grown (by have := h.below.size; omega) (fun j hj => by injection hj with hj; omega)).alloc (by have := h.below.size; omega) _).grown hg (by simp; have := h.below.size; omega) (fun j hj => by injection hj with hj; omega)
def ModelPost (w W : World) (l : List A2) (e : Ending) : Prop :=
  ∃ g, e = .returned (.slice (some ⟨g, 0, none⟩) (mergeL l).length (mergeL l).length) ∧ w.heap.size ≤ g ∧ BufA 51 W g (mergeL l).length (mergeL l) ∧ Below w.heap.size w W
theorem names_le {l : List A2} {k : Nat} {x : A2} (hs : ∀ y ∈ l, y.1.size ≤ maxLen ∧ y.2.size ≤ maxLen) (hx : l[k]? = some x) : x.1.size ≤ maxLen ∧ x.2.size ≤ maxLen := hs x (List.mem_of_getElem? hx)
theorem lv_le {l : List A2} {k : Nat} {x : A2} (hs : ∀ y ∈ l, y.1.size ≤ maxLen ∧ y.2.size ≤ maxLen) (hx : l[k]? = some x) : (lv l x.1).size ≤ maxLen := by
  have hm : x.1 ∈ firsts l := (mem_firsts l x.1).2 ⟨x.2, List.mem_of_getElem? hx⟩
  cases h : lastI l x.1 with
  | none => exact absurd hm ((lastI_none l x.1).1 h)
  | some i =>
    obtain ⟨v, h1, h2⟩ := lastI_spec l _ _ h
    unfold lv
    rw [h2]
    exact (hs _ (List.mem_of_getElem? h1)).2

set_option maxHeartbeats 4000000 in
theorem model_any (ao : Option Addr) (n cap : Nat) (l : List A2) (w : World) (hn : n ≤ 200000) (hl : l.length = n) (hR : RowO w ao l) (hs : ∀ y ∈ l, y.1.size ≤ maxLen ∧ y.2.size ≤ maxLen) :
    Calls Try.prog 14 #[.slice ao n cap] w fun e w' => ModelPost w w' l e := by
  obtain ⟨i0, hi, hz, hsz, hb⟩ := info_parts info51
  have HL : Hid _ := hl
  have HS : Hid _ := hs
  clear hl hs hz hb
  have hm1 : ∀ w, (Instr.makeMap 59 (some (.int .i64 n))).run Try.prog w = .ok (.map (some w.heap.size)) (w.alloc (.map #[] 0)) := run_mk Try.underlying59 n
  have hm2 : ∀ w, (Instr.makeMap 60 (some (.int .i64 n))).run Try.prog w = .ok (.map (some w.heap.size)) (w.alloc (.map #[] 0)) := run_mk Try.underlying60 n
  go_enter Try.func14, Try.ntmps14
  go_wp2
  go_loopw [4] (fun v4 wr => ∃ k : Nat, k ≤ n ∧ v4 = .int .i64 k ∧ Ext w wr ∧ MapL 9 wr w.heap.size k (firsts (l.take k)).length (lastF (l.take k))) (fun v4 _ => n - (intOf v4).toNat)
  case atStart => exact ⟨0, by omega, rfl, (Ext.refl _).alloc _, (MapL.made 9 w).congr rfl (fun s => rfl)⟩
  case round =>
    obtain ⟨k, hk, rfl, hE, hM⟩ := hrel
    by_cases hlt : k < n
    · clear hm1 hm2
      obtain ⟨b, off, x, rfl, hRr, hx⟩ := (hR.ext hE).get (i := k) (by rw [HL.out]; exact hlt)
      obtain ⟨a0, a1⟩ := hRr.2 k x hx
      have hwb := hRr.1
      obtain ⟨x1, x2⟩ := names_le HS.out hx
      obtain ⟨w1, hrun, hM1, hT1⟩ := (hM.ext (Ext.refl wr).drew).run_store (t := 59) Try.underlying59 (by unfold maxLen; omega) (s := x.1) x1 (val := .string x.2) (l := keyL x.2) (plainElem_string Try.underlying9 x2)
      have hE1 : Ext w w1 := (hE.trans (Ext.refl wr).drew).turned hT1 (Nat.le_refl _)
      have hM2 : MapL 9 w1 w.heap.size (k + 1) (firsts (l.take (k + 1))).length (lastF (l.take (k + 1))) := by
        refine hM1.congr ?_ (fun s => ?_)
        · rw [take_snoc hx]; exact firsts_cnt _ _ (lastF_some _ _)
        · rw [take_snoc hx]; exact lastF_snoc _ _ _
      clear hM1 hT1 hM hE hx hRr
      go_wp2
      go_big_region
      go_wp2
      go_roundw
      case rel => exact ⟨k + 1, by omega, by go_num, hE1, hM2⟩
      case measure => simp [intOf]; omega
    · clear hm1
      obtain rfl : n = k := by omega
      have hln : l.take n = l := by rw [← HL.out, List.take_length]
      rw [hln] at hM
      have hml : (mergeL l).length = (firsts l).length := merge_len l
      have hfl : (firsts l).length ≤ n := by have := firsts_le l; rw [HL.out] at this; exact this
      have HML : Hid _ := hml
      clear hln hml
      have hmk := run_make22c (firsts l).length (by omega)
      have hM0 := hM.ext ((Ext.refl wr).alloc (.map #[] 0))
      have hS := MS.start (m := (firsts l).length) hE hM
      clear hM
      go_wp2_with (at_len; refine wpList_len_L _ rfl (.tmp 32) 59 rfl 9 Try.underlying59 w.heap.size n _ _ rfl hM0 ?_)
      generalize hmm : (firsts l).length = mm at *
      have HMM : Hid _ := hmm
      clear hmm hM0
      go_wp2
      clear hmk hm2
      obtain ⟨S, hSe⟩ : ∃ S : World, S = wr := ⟨_, rfl⟩
      subst hSe
      go_loopw [7, 6] (fun v7 v6 wq => ∃ k o : Nat, k ≤ n ∧ v7 = .int .i64 k ∧ v6 = .slice (some ⟨S.heap.size + 1, 0, none⟩) o mm ∧ Hid (o = (firsts (l.take k)).length) ∧ MS w S wq n mm k l) (fun v7 _ _ => n - (intOf v7).toNat)
      case atStart => exact ⟨0, 0, by omega, rfl, rfl, rfl, hS⟩
      case round =>
        clear hS
        obtain ⟨k, o, hk, rfl, rfl, ho, hJ⟩ := hrel
        by_cases hlt : k < n
        · obtain ⟨b, off, x, rfl, hRr, hx⟩ := hR.get (i := k) (by rw [HL.out]; exact hlt)
          obtain ⟨a0, a1⟩ := (hRr.of_below hJ.below hRr.1).2 k x hx
          have hwb : b < wr.heap.size := Nat.lt_of_lt_of_le hRr.1 hJ.below.size
          obtain ⟨x1, x2⟩ := names_le HS.out hx
          have hx3 := lv_le HS.out hx
          have hlk := hJ.seen.run_bool (t := 60) Try.underlying60 Try.underlying4 (zero4 _) x1 (seenF_true _ _)
          by_cases hold : x.1 ∈ firsts (l.take k)
          · rw [(seenF_some _ _).2 hold] at hlk
            have hJ1 := hJ.old hx hold
            have ho1 : Hid (o = (firsts (l.take (k + 1))).length) := by
              have : firsts (l.take (k + 1)) = firsts (l.take k) := by rw [take_snoc hx, firsts_snoc, if_pos hold]
              rw [this]; exact ho
            clear hx hRr hJ
            go_wp2
            go_roundw
            case rel => exact ⟨k + 1, o, by omega, by go_num, rfl, ho1, hJ1⟩
            case measure => simp [intOf]; omega
          · have hno : (seenF (l.take k) x.1).isSome = false := by
              cases h : (seenF (l.take k) x.1).isSome with
              | false => rfl
              | true => exact absurd ((seenF_some _ _).1 h) hold
            rw [hno] at hlk
            have hlen : (outL l (l.take k)).length = o := by rw [outL_len]; exact ho.out.symm
            have hcap : o < mm := by
              have h1 := firsts_take_le l (k + 1)
              have h2 : (firsts (l.take (k + 1))).length = (firsts (l.take k)).length + 1 := by rw [take_snoc hx, firsts_snoc, if_neg hold]; simp
              have h3 := ho.out
              have h4 := HMM.out
              omega
            obtain ⟨w1, hrun, hM1, hT1⟩ := hJ.seen.run_store (t := 60) Try.underlying60 (by unfold maxLen; omega) (s := x.1) x1 (val := .bool true) (l := .bool true) (plainElem_bool Try.underlying4 true)
            obtain ⟨c, hLst⟩ := hJ.last
            have hL1 := (hLst.block (turned_block hT1 (by have := hJ.buf.lt; have := hJ.lt; omega) (by have := hJ.lt; omega))).run_str (t := 59) Try.underlying59 Try.underlying9 (zero9 _) x1 (lastF_at hx)
            have hbuf1 := hJ.buf.block (turned_block hT1 hJ.buf.lt (by omega))
            obtain ⟨xs, hown, hxs⟩ := hbuf1.own (by rw [hlen]; omega) (by unfold maxLen; omega)
            rw [hlen] at hown
            have hxl := hown.1
            have hown1 := hown.alloc (box2 51 (x.1, lv l x.1))
            have hnews := news2 51 w1 (x.1, lv l x.1)
            have hone := enc2_one (x.1, lv l x.1)
            have HX : Hid _ := hx
            have HXS : Hid _ := hxs
            have HT : Hid _ := hT1
            have HM : Hid _ := hM1
            have HO : Hid _ := hlen
            clear hown hx hxs hRr hT1 hM1 hLst hbuf1 hlen
            go_wp2_with (at_builtin; refine wpList_append_fits _ rfl (.tmp 51) (.tmp 57) 22 rfl 0 51 i0 2 Try.underlying22 hi hsz (S.heap.size + 1) o mm xs rfl hown1 ⟨w1.heap.size, 0, none⟩ 1 1 (enc2 (x.1, lv l x.1)) rfl rfl hnews hone (by omega) ?_)
            intro w2 hown2 hgr
            have hB2 := BufA.of_own hown2 (snoc_cells (z := (x.1, lv l x.1)) (by rw [HO.out]; exact hxl) HXS.out)
            have hJ1 := hJ.new HX.out hold HT.out HM.out hB2 hgr
            have ho1 : Hid (o + 1 = (firsts (l.take (k + 1))).length) := by
              have : (firsts (l.take (k + 1))).length = (firsts (l.take k)).length + 1 := by rw [take_snoc HX.out, firsts_snoc, if_neg hold]; simp
              show _ = _
              rw [this, ← ho.out]
            clear hown1 hown2 hgr hnews hone a0 a1 hxl hB2 hJ hrun hlk hL1
            go_wp2
            go_roundw
            case rel => exact ⟨k + 1, o + 1, by omega, by go_num, rfl, ho1, hJ1⟩
            case measure => simp [intOf]; omega
        · obtain rfl : n = k := by omega
          have hln : l.take n = l := by rw [← HL.out, List.take_length]
          have ho2 : mm = o := by rw [ho.out, hln, HMM.out]
          obtain rfl := ho2
          have hB := hJ.buf
          rw [hln, outL_self] at hB
          have hbel := hJ.below
          have hge := hJ.lt
          clear hln
          have HB : Hid _ := hB
          clear hB hJ ho
          go_wp2
          go_ret
          have e : (mergeL l).length = mm := HML.out
          refine ⟨S.heap.size + 1, ?_, by omega, by rw [e]; exact HB.out, hbel⟩
          rw [e]
          rfl

end Go.Proofs.Qxb6618064a
