/- A log: its list and where the last with each name stands. add, put. -/
import Derived.Test.Qxb6618064aModel
import Derived.Deep.RegionLaw
import Derived.Deep.AppendLies
import Derived.Deep.DeepCutAuto
set_option linter.unusedVariables false
namespace Go.Proofs.Qxb6618064a
open Go.RowKit Go.Sort Go.Maps Go.WideShapes Go.ChangeShapes Go.WideMaps Plain

/-- w' is w but for the blocks of F and for new ones -/
structure Kept (F : Nat → Prop) (w w' : World) : Prop where
  os : w'.os = w.os
  tape : w'.tape = w.tape
  output : w'.output = w.output
  size : w.heap.size ≤ w'.heap.size
  block : ∀ b, b < w.heap.size → ¬ F b → w'.heap[b]? = w.heap[b]?
theorem Kept.trans {F G : Nat → Prop} {a b c : World} (h : Kept F a b) (k : Kept G b c) (hFG : ∀ i, i < a.heap.size → G i → F i) : Kept F a c :=
  ⟨k.os.trans h.os, k.tape.trans h.tape, k.output.trans h.output, Nat.le_trans h.size k.size, fun i hi hn => (k.block i (Nat.lt_of_lt_of_le hi h.size) (fun hg => hn (hFG i hi hg))).trans (h.block i hi hn)⟩
theorem Ext.kept {a b : World} (h : Ext a b) (F : Nat → Prop) : Kept F a b := ⟨h.below.os, h.below.tape, h.below.output, h.size, fun i hi _ => h.block i hi⟩
theorem Kept.of_grown {a b : World} {g : Nat} (h : a.grownBy b (some g)) : Kept (fun i => i = g) a b := by
  obtain ⟨h1, h2, h3, h4, h5⟩ := h
  exact ⟨h1, h2, h3, h4, fun i hi hn => h5 i hi (by simpa using hn)⟩
theorem Kept.of_set {a : World} {p o : Nat} (v : Value) : Kept (fun i => i = p) a (a.setCell ⟨p, o, none⟩ v) :=
  ⟨rfl, rfl, rfl, by simp, fun i hi hn => heap_set_other (fun e => hn e.symm)⟩
theorem Kept.below {F : Nat → Prop} {a b : World} (h : Kept F a b) (hF : ∀ i, i < a.heap.size → ¬ F i) : Below a.heap.size a b := ⟨h.os, h.tape, h.output, h.size, fun i hi => h.block i hi (hF i hi)⟩
theorem Kept.mono {F G : Nat → Prop} {a b : World} (h : Kept F a b) (hFG : ∀ i, i < a.heap.size → F i → G i) : Kept G a b := ⟨h.os, h.tape, h.output, h.size, fun i hi hn => h.block i hi (fun hf => hn (hFG i hi hf))⟩

def lastIL (L : List A2) (s : ByteArray) : Option Lit := (lastI L s).map fun i => .int .i64 i
theorem lastIL_snoc (L : List A2) (x : A2) (s : ByteArray) : (if s = x.1 then some (Lit.int .i64 L.length) else lastIL L s) = lastIL (L ++ [x]) s := by
  unfold lastIL
  rw [lastI_snoc]
  by_cases h : s = x.1
  · rw [if_pos h, if_pos h.symm]; rfl
  · rw [if_neg h, if_neg (fun e => h e.symm)]
/-- the log at block p: its row at g, its map at m -/
structure LogAt (w : World) (p g m cap : Nat) (L : List A2) : Prop where
  hp : w.heap[p]? = some (.cells #[.slice (some ⟨g, 0, none⟩) L.length cap, .map (some m)] 53 (0, 0))
  buf : BufA 56 w g cap L
  mp : ∃ c, MapL 3 w m L.length c (lastIL L)
  le : L.length ≤ cap
  cm : cap ≤ maxLen
def In3 (p g m : Nat) (i : Nat) : Prop := i = p ∨ i = g ∨ i = m
theorem MapL.isMap {e : TypeId} {w : World} {b n c : Nat} {f : ByteArray → Option Lit} (h : MapL e w b n c f) : ∃ es k, w.heap[b]? = some (.map es k) := by
  obtain ⟨D, ⟨es, clock, h1, _⟩, _⟩ := h
  exact ⟨es, clock, h1⟩
theorem LogAt.pg {w : World} {p g m cap : Nat} {L : List A2} (h : LogAt w p g m cap L) : p ≠ g := by
  rintro rfl
  obtain ⟨c, hc, _⟩ := h.buf
  rw [h.hp] at hc
  injection hc with hc
  injection hc with _ hc
  exact absurd hc (by decide)
theorem LogAt.pm {w : World} {p g m cap : Nat} {L : List A2} (h : LogAt w p g m cap L) : p ≠ m := by
  rintro rfl
  obtain ⟨c, hm⟩ := h.mp
  obtain ⟨es, k, hm⟩ := hm.isMap
  rw [h.hp] at hm
  injection hm with hm
  cases hm
theorem LogAt.gm {w : World} {p g m cap : Nat} {L : List A2} (h : LogAt w p g m cap L) : g ≠ m := by
  rintro rfl
  obtain ⟨c, hm⟩ := h.mp
  obtain ⟨es, k, hm⟩ := hm.isMap
  obtain ⟨c, hc, _⟩ := h.buf
  rw [hc] at hm
  injection hm with hm
  cases hm
theorem LogAt.lt {w : World} {p g m cap : Nat} {L : List A2} (h : LogAt w p g m cap L) : p < w.heap.size ∧ g < w.heap.size ∧ m < w.heap.size := by
  obtain ⟨c, hm⟩ := h.mp
  exact ⟨(Array.getElem?_eq_some_iff.1 h.hp).1, h.buf.lt, hm.lt⟩
theorem LogAt.block {w w' : World} {p g m cap : Nat} {L : List A2} (h : LogAt w p g m cap L) (h1 : w'.heap[p]? = w.heap[p]?) (h2 : w'.heap[g]? = w.heap[g]?) (h3 : w'.heap[m]? = w.heap[m]?) : LogAt w' p g m cap L := by
  obtain ⟨c, hm⟩ := h.mp
  exact ⟨h1.trans h.hp, h.buf.block h2, ⟨c, hm.block h3⟩, h.le, h.cm⟩
theorem LogAt.ext {w w' : World} {p g m cap : Nat} {L : List A2} (h : LogAt w p g m cap L) (hE : Ext w w') : LogAt w' p g m cap L :=
  h.block (hE.block _ h.lt.1) (hE.block _ h.lt.2.1) (hE.block _ h.lt.2.2)
theorem LogAt.kept {F : Nat → Prop} {w w' : World} {p g m cap : Nat} {L : List A2} (h : LogAt w p g m cap L) (hE : Kept F w w') (hF : ∀ i, In3 p g m i → ¬ F i) : LogAt w' p g m cap L :=
  h.block (hE.block _ h.lt.1 (hF _ (Or.inl rfl))) (hE.block _ h.lt.2.1 (hF _ (Or.inr (Or.inl rfl)))) (hE.block _ h.lt.2.2 (hF _ (Or.inr (Or.inr rfl))))
theorem LogAt.cells {w : World} {p g m cap : Nat} {L : List A2} (h : LogAt w p g m cap L) : w.cell? ⟨p, 0, none⟩ = some (.slice (some ⟨g, 0, none⟩) L.length cap) ∧ w.cell? ⟨p, 1, none⟩ = some (.map (some m)) ∧ ∀ o, w.frozen? ⟨p, o, none⟩ = false := by
  simp [World.cell?, World.frozen?, h.hp]

theorem enc_at {T : TypeId} {w : World} {b : Nat} {z : A2} (h : w.heap[b]? = some (box2 T z)) : ∀ j u, (enc2 z)[j]? = some u → w.cell? ((⟨b, 0, none⟩ : Addr).add j) = some u := by
  intro j u hu
  obtain ⟨c0, c1⟩ := boxed2 h
  have hj : j < 2 := by
    have := (List.getElem?_eq_some_iff.1 hu).1
    simpa [enc2] using this
  match j, hj with
  | 0, _ => simp [enc2] at hu; subst hu; exact c0
  | 1, _ => simp [enc2] at hu; subst hu; exact c1
theorem step_app {w : World} {ops : Array Oper} {o : Oper} {a : Act} {K : Act → World → Prop} {Q : Exit → Act → World → Prop} {E : Prop} (hgd : o.guard = none) (s x : Operand)
    (ho : o.op = .call { callee := .builtin .append, args := #[s, x], argTypes := #[29, 29] }) (g cap : Nat) (L : List A2) (z : A2) (hB : BufA 56 w g cap L) (hle : L.length ≤ cap) (hcm : cap ≤ maxLen) (hL : L.length ≤ 400000)
    (hs : a.eval s = .slice (some ⟨g, 0, none⟩) L.length cap) (ad : Addr) (hx : a.eval x = .slice (some ad) 1 1) (hnews : ∀ j u, (enc2 z)[j]? = some u → w.cell? (ad.add j) = some u)
    (h : ∀ g' cap' w', BufA 56 w' g' cap' (L ++ [z]) → L.length + 1 ≤ cap' → cap' ≤ maxLen → (g' = g ∨ w.heap.size ≤ g') → w.grownBy w' (some g) → K (a.put o.dst (.slice (some ⟨g', 0, none⟩) (L.length + 1) cap')) w') :
    if Region.wanted o (yielded ops a.tmps) = true then Oper.wp Try.prog o a w K Q else E := by
  obtain ⟨i, hi, hz, hsz, hb⟩ := info_parts info56
  obtain ⟨xs, hown, hxs⟩ := hB.own hle hcm
  refine step_append_lies w hgd s x 29 ho 0 56 i _ 2 32 Try.underlying29 hi hz hsz hb rfl (by decide) (.slice (some ⟨g, 0, none⟩) L.length cap) L.length xs hs hown ad 1 1 (enc2 z) hx rfl hnews (enc2_one z) (by decide) (by unfold maxLen; omega) (by omega) (Nat.zero_le _) _ rfl ?_
  intro g' cap' w' hown' hgr hg hlt
  have hB' := BufA.of_own hown' (snoc_cells (z := z) hown.1 hxs)
  refine h g' cap' w' hB' ?_ ?_ ?_ hgr
  · obtain ⟨_, h0 | ⟨g2, cap2, c2, hv, _, hb2, hL2, hm2, _⟩⟩ := hown'
    · obtain ⟨h1, _⟩ := h0; cases h1
    · injection hv with _ _ h3; rw [h3]; exact hL2
  · obtain ⟨_, h0 | ⟨g2, cap2, c2, hv, _, hb2, hL2, hm2, _⟩⟩ := hown'
    · obtain ⟨h1, _⟩ := h0; cases h1
    · injection hv with _ _ h3; rw [h3]; exact hm2
  · rcases hg with hg | hg
    · left
      simp [Value.ownBlock] at hg
      exact hg.symm
    · right
      omega

theorem app_block {w w' : World} {p g : Nat} {o : Obj} (hgr : w.grownBy w' (some g)) (hp : w.heap[p]? = some o) (hne : p ≠ g) : w'.heap[p]? = some o :=
  ((Kept.of_grown hgr).block p (Array.getElem?_eq_some_iff.1 hp).1 hne).trans hp
theorem app_cell {w w' : World} {p g : Nat} {a b : Value} {T : TypeId} (hgr : w.grownBy w' (some g)) (hp : w.heap[p]? = some (.cells #[a, b] T (0, 0))) (hne : p ≠ g) : w'.cell? ⟨p, 0, none⟩ = some a := by
  simp [World.cell?, app_block hgr hp hne]
theorem app_frozen {w w' : World} {p g : Nat} {a b : Value} {T : TypeId} (hgr : w.grownBy w' (some g)) (hp : w.heap[p]? = some (.cells #[a, b] T (0, 0))) (hne : p ≠ g) : w'.frozen? ⟨p, 0, none⟩ = false := by
  simp [World.frozen?, app_block hgr hp hne]
theorem far_of {w1 : World} {o : Obj} {g g' : Nat} (h : g' = g ∨ (w1.drew.alloc o).heap.size ≤ g') : g' = g ∨ w1.heap.size ≤ g' := by
  rcases h with h | h
  · exact Or.inl h
  · refine Or.inr ?_
    have : (w1.drew.alloc o).heap.size = w1.heap.size + 1 := by simp
    omega
def AddPost (w : World) (p g m : Nat) (L : List A2) (w' : World) : Prop := ∃ g' cap', LogAt w' p g' m cap' L ∧ (g' = g ∨ w.heap.size ≤ g') ∧ Kept (In3 p g m) w w'

theorem add_end {w V V1 V2 : World} {p g m cap g' cap' : Nat} {L : List A2} {x : A2} {o : Obj} (hL : LogAt w p g m cap L) (h1 : Ext w V) (hT : V.mapTurned V1 m) (hM : ∃ c, MapL 3 V1 m (L.length + 1) c (lastIL (L ++ [x])))
    (hB : BufA 56 V2 g' cap' (L ++ [x])) (h2 : L.length + 1 ≤ cap') (h3 : cap' ≤ maxLen) (hg : g' = g ∨ V1.heap.size ≤ g') (hgr : (V1.drew.alloc o).grownBy V2 (some g)) :
    AddPost w p g m (L ++ [x]) (V2.setCell ⟨p, 0, none⟩ (.slice (some ⟨g', 0, none⟩) (L.length + 1) cap')) := by
  obtain ⟨l1, l2, l3⟩ := hL.lt
  have hk1 : Kept (In3 p g m) w V := h1.kept _
  have hk2 : Kept (fun i => i = m) V V1 := Kept.of_grown hT.grown
  have hk3 : Kept (In3 p g m) V1 (V1.drew.alloc o) := ((Ext.refl V1).drew.alloc o).kept _
  have hk4 := Kept.of_grown hgr
  have hk5 : Kept (fun i => i = p) V2 (V2.setCell ⟨p, 0, none⟩ (.slice (some ⟨g', 0, none⟩) (L.length + 1) cap')) := Kept.of_set _
  have hs1 := hk1.size
  have hs2 := hk2.size
  have hs3 := hk3.size
  have hs4 := hk4.size
  have hpg := hL.pg
  have hpm := hL.pm
  have hgm := hL.gm
  have hgp : g' ≠ p := by rcases hg with e | e <;> omega
  have hgm' : g' ≠ m := by rcases hg with e | e <;> omega
  have kw2 : Kept (In3 p g m) w V1 := hk1.trans hk2 (fun i _ hi => Or.inr (Or.inr hi))
  have k24 : Kept (fun i => i = g) V1 V2 := (((Ext.refl V1).drew.alloc o).kept _).trans hk4 (fun i _ hi => hi)
  have kw : Kept (In3 p g m) w V2 := kw2.trans k24 (fun i _ hi => Or.inr (Or.inl hi))
  refine ⟨g', cap', ⟨?_, ?_, ?_, by simpa using h2, h3⟩, ?_, kw.trans hk5 (fun i _ hi => Or.inl hi)⟩
  · have hp1 : V1.heap[p]? = w.heap[p]? := (hk2.block p (by omega) (fun e => hpm e)).trans (h1.block p l1)
    have hp2 : V2.heap[p]? = w.heap[p]? := (k24.block p (by omega) (fun e => hpg e)).trans hp1
    rw [heap_set_same (hp2.trans hL.hp)]
    simp
  · exact hB.block (heap_set_other hgp.symm)
  · obtain ⟨c, hM⟩ := hM
    refine ⟨c, ?_⟩
    have := (hM.block (k24.block m hM.lt (fun e => hgm e.symm))).block (w' := V2.setCell ⟨p, 0, none⟩ (.slice (some ⟨g', 0, none⟩) (L.length + 1) cap')) (heap_set_other hpm)
    simpa using this
  · rcases hg with e | e
    · exact Or.inl e
    · exact Or.inr (by omega)

set_option maxHeartbeats 2000000 in
theorem add_any (p g m cap : Nat) (L : List A2) (x : A2) (w : World) (h : LogAt w p g m cap L) (hL : L.length ≤ 400000) (hx : x.1.size ≤ maxLen) :
    Calls Try.prog 31 #[.pointer (some ⟨p, 0, none⟩), .agg #[.string x.1, .string x.2]] w fun e w' => (∃ v, e = .returned v) ∧ AddPost w p g m (L ++ [x]) w' := by
  have hnl := fun w r => run_eql_map_nil (P := Try.prog) w 40 9 3 r Try.underlying40
  have HL : Hid _ := h
  obtain ⟨l1, l2, l3⟩ := h.lt
  have hE0 : Ext w (w.alloc (box2 56 x)) := (Ext.refl w).alloc _
  obtain ⟨c0, c1, cf⟩ := (h.ext hE0).cells
  obtain ⟨b0, b1⟩ := boxed2 (w := w.alloc (box2 56 x)) (heap_alloc_new w (box2 56 x))
  obtain ⟨c, hM⟩ := (h.ext (hE0.drew)).mp
  obtain ⟨w1, hrun, hM1, hT1⟩ := hM.run_store (t := 40) Try.underlying40 (by unfold maxLen; omega) (s := x.1) hx (val := .int .i64 L.length) (l := .int .i64 L.length) (plainElem_int Try.underlying3 (by simp [Lit.wf, IntKind.min, IntKind.max, IntKind.signed, IntKind.bits]; omega))
  have hM2 : ∃ c, MapL 3 w1 m (L.length + 1) c (lastIL (L ++ [x])) := ⟨_, hM1.congr rfl (fun s => lastIL_snoc L x s)⟩
  have hk2 := Kept.of_grown hT1.grown
  have hwV : w.heap.size < (w.alloc (box2 56 x)).heap.size := by simp
  have hpb : p ≠ w.heap.size := by omega
  have hlV := (h.ext hE0).lt
  have hB1 := (h.ext (hE0.drew)).buf.block (hk2.block g hlV.2.1 h.gm)
  have hP1 := hk2.block p hlV.1 h.pm
  have hX1 := hk2.block w.heap.size (by simp) (fun e => by omega)
  rw [show (w.alloc (box2 56 x)).drew.heap[w.heap.size]? = some (box2 56 x) from heap_alloc_new w (box2 56 x)] at hX1
  rw [show (w.alloc (box2 56 x)).drew.heap[p]? = _ from (h.ext (hE0.drew)).hp] at hP1
  have HE : Hid _ := hE0
  have HT : Hid _ := hT1
  have HM : Hid _ := hM2
  clear h hM hM1 hM2 hT1 hE0 hk2 hlV
  have hle := HL.out.le
  have hcm := HL.out.cm
  go_enter Try.func31, Try.ntmps31
  go_upto_region 1 with fail
  change Code.wp _ _ _ _ (w.alloc (box2 56 x))
  generalize w.alloc (box2 56 x) = V at *
  go_wp2
  go_big_region
  clear c0 c1 cf b0 b1 hrun
  have c0 : w1.cell? ⟨p, 0, none⟩ = some (.slice (some ⟨g, 0, none⟩) L.length cap) := by simp [World.cell?, hP1]
  have cf : w1.frozen? ⟨p, 0, none⟩ = false := by simp [World.frozen?, hP1]
  obtain ⟨b0, b1⟩ := boxed2 hX1
  have hE1 : Ext w1 (w1.drew.alloc (box2 56 x)) := (Ext.refl w1).drew.alloc _
  have hB2 : BufA 56 (w1.drew.alloc (box2 56 x)) g cap L := hB1.ext hE1
  have hP2 := (hE1.block p (Array.getElem?_eq_some_iff.1 hP1).1).trans hP1
  have hnews := enc_at (show (w1.drew.alloc (box2 56 x)).heap[w1.heap.size]? = some (box2 56 x) from heap_alloc_new w1.drew _)
  have l1' := (Array.getElem?_eq_some_iff.1 hP1).1
  have hpg := HL.out.pg
  have HB1 : Hid _ := hB1
  have HP1 : Hid _ := hP1
  have HX1 : Hid _ := hX1
  have HE1 : Hid _ := hE1
  have HPG : Hid _ := hpg
  have HP2 : Hid _ := hP2
  clear hB1 hP1 hX1 hE1 hpg hP2
  go_wp2
  go_region_law (refine step_app (by rfl) (.tmp 28) (.tmp 30) (by rfl) g cap L x hB2 hle hcm hL (by rfl) ⟨w1.heap.size, 0, none⟩ (by rfl) hnews ?_; intro g' cap' w2 hB hle2 hcm2 hg' hgr; have c2 : w2.cell? ⟨p, 0, none⟩ = some (.slice (some ⟨g, 0, none⟩) L.length cap) := app_cell hgr HP2.out HPG.out; have f2 : w2.frozen? ⟨p, 0, none⟩ = false := app_frozen hgr HP2.out HPG.out)
  all_goals
    (have hfin := add_end HL.out (Ext.drew HE.out) HT.out HM.out hB hle2 hcm2 (far_of hg') hgr
     clear hB hgr hg' c2 f2 hle2 hcm2 hnews hB2 c0 cf b0 b1
     go_wp2
     exact bodyPost_end (v := .tuple #[]) (by simp [results, Try.results31, go_sem]) rfl ⟨⟨_, rfl⟩, hfin⟩)
end Go.Proofs.Qxb6618064a
