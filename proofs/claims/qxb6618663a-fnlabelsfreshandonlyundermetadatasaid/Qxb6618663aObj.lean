/- ZZlabelsObject, ZZmisplacedLabelsObject. -/
import Derived.Test.Qxb6618663aMem
set_option linter.unusedVariables false
namespace Go.Proofs.Qxb6618663a
open Go.RowKit Go.Sort

def metaS : ByteArray := { data := #[109, 101, 116, 97, 100, 97, 116, 97] }
def labS : ByteArray := { data := #[108, 97, 98, 101, 108, 115] }
theorem metaS_le : metaS.size ≤ maxLen := by decide
theorem labS_le : labS.size ≤ maxLen := by decide
/-- the document {metadata: {labels: f}} -/
def ObjL (W : World) (b0 : Nat) (f : Fn) : Prop := ∃ bm bl n0 c0 nm cm n c, MapV W b0 n0 c0 (upd f0 metaS (.iface 38 (.map (some bm)))) ∧ MapV W bm nm cm (upd f0 labS (.iface 38 (.map (some bl)))) ∧ n ≤ 2097152 ∧ MapV W bl n c f
theorem ObjL.kp {w w' : World} {b : Nat} {f : Fn} (h : ObjL w b f) (hE : Kp w w') : ObjL w' b f := by
  obtain ⟨bm, bl, n0, c0, nm, cm, n, c, h1, h2, h3, h4⟩ := h
  exact ⟨bm, bl, n0, c0, nm, cm, n, c, h1.kp hE, h2.kp hE, h3, h4.kp hE⟩
/-- the document {labels: ..} -/
def ObjM (W : World) (b0 : Nat) : Prop := ∃ bl n0 c0, MapV W b0 n0 c0 (upd f0 labS (.iface 38 (.map (some bl))))
theorem ObjM.kp {w w' : World} {b : Nat} (h : ObjM w b) (hE : Kp w w') : ObjM w' b := by
  obtain ⟨bl, n0, c0, h1⟩ := h
  exact ⟨bl, n0, c0, h1.kp hE⟩
def ObjPost (w : World) (O : World → Nat → Prop) (e : Ending) (w' : World) : Prop := ∃ b, e = .returned (.agg #[.map (some b)]) ∧ Kp w w' ∧ O w' b

theorem two {w : World} {x : Obj} : MapV (((w.alloc x).alloc (.map #[] 0)).alloc (.map #[] 0)) (w.heap.size + 1) 0 0 f0 ∧ MapV (((w.alloc x).alloc (.map #[] 0)).alloc (.map #[] 0)) (w.heap.size + 1 + 1) 0 0 f0 ∧ (((w.alloc x).alloc (.map #[] 0)).alloc (.map #[] 0)).heap[w.heap.size]? = some x ∧ Kp w (((w.alloc x).alloc (.map #[] 0)).alloc (.map #[] 0)) ∧ (((w.alloc x).alloc (.map #[] 0)).alloc (.map #[] 0)).heap.size = w.heap.size + 3 := by
  have e1 : (w.alloc x).heap.size = w.heap.size + 1 := by simp
  have e2 : ((w.alloc x).alloc (.map #[] 0)).heap.size = w.heap.size + 1 + 1 := by simp
  refine ⟨?_, ?_, ?_, (((Kp.refl w).alloc _).alloc _).alloc _, by simp⟩
  · rw [← e1]
    exact (MapV.made (w.alloc x)).kp ((Kp.refl _).alloc _)
  · rw [← e2]
    exact MapV.made _
  · rw [Below.heap_alloc _ _ _ (by omega), Below.heap_alloc _ _ _ (by omega)]
    exact heap_alloc_new _ _
set_option maxHeartbeats 4000000 in
theorem labels20 (a1 a2 a3 a4 : Option Addr) (n1 c1 n2 c2 n3 c3 n4 c4 : Nat) (l1 l2 l3 : List ByteArray) (l4 : List Int) (w : World) (hn1 : n1 ≤ 1048576) (hn2 : n2 ≤ 1048576) (hn3 : n3 ≤ 1048576) (hn4 : n4 ≤ 1048576) (hl1 : l1.length = n1) (hl2 : l2.length = n2) (hl3 : l3.length = n3) (hl4 : l4.length = n4)
    (hR1 : RowO Value.string w a1 l1) (hR2 : RowO Value.string w a2 l2) (hR3 : RowO Value.string w a3 l3) (hR4 : RowO (Value.int .i64) w a4 l4) (hs1 : Sm l1) (hs3 : Sm l3) :
    Calls Try.prog 20 #[.slice a1 n1 c1, .slice a2 n2 c2, .slice a3 n3 c3, .slice a4 n4 c4] w fun e w' => ObjPost w (fun W b => ObjL W b (memF (l1.zip l2) (l3.zip l4))) e w' := by
  have hmk := run_mk0 Try.underlying38
  have HC : ∀ W, Kp w W → Hid (Calls Try.prog 27 #[.slice a1 n1 c1, .slice a2 n2 c2, .slice a3 n3 c3, .slice a4 n4 c4] W fun e w' => MemPost W (memF (l1.zip l2) (l3.zip l4)) e w') := fun W hW =>
    members_any a1 a2 a3 a4 n1 c1 n2 c2 n3 c3 n4 c4 l1 l2 l3 l4 W hn1 hn2 hn3 hn4 hl1 hl2 hl3 hl4 (hR1.kp hW) (hR2.kp hW) (hR3.kp hW) (hR4.kp hW) hs1 hs3
  clear hl1 hl2 hl3 hl4 hs1 hs3 hR1 hR2 hR3 hR4
  go_enter Try.func20, Try.ntmps20
  go_wp2_with fail
  obtain ⟨hm1, hm2, hcl, hkv, hvs⟩ := two (w := w) (x := .cells #[.map none] 40)
  have hK := HC _ hkv
  change Calls _ _ _ (((w.alloc (.cells #[.map none] 40)).alloc (.map #[] 0)).alloc (.map #[] 0)) _
  generalize ((w.alloc (.cells #[.map none] 40)).alloc (.map #[] 0)).alloc (.map #[] 0) = V at *
  clear HC hmk
  refine hK.out.mono ?_
  clear hK
  rintro e W1 ⟨bl, n, c, rfl, hbl, hn, hk1, hM⟩
  obtain ⟨W2, hr2, ⟨d2, hM2⟩, hT2⟩ := (hm2.kp hk1).run_store (t := 38) Try.underlying38 (by unfold maxLen; omega) (s := labS) labS_le (.iface 38 (.map (some bl)))
  have hsz1 := hk1.size
  have hlt := hM.lt
  have hs2 : W2.heap.size = W1.heap.size := by
    obtain ⟨_, _, _, _, _, rfl⟩ := hT2
    exact Array.size_setIfInBounds
  have hm1' : MapV W2 (w.heap.size + 1) 0 0 f0 := (hm1.kp hk1).block (turned_block hT2 (by omega) (by omega))
  obtain ⟨W3, hr3, ⟨d3, hM3⟩, hT3⟩ := hm1'.run_store (t := 38) Try.underlying38 (by unfold maxLen; omega) (s := metaS) metaS_le (.iface 38 (.map (some (w.heap.size + 1 + 1))))
  have hs3 : W3.heap.size = W2.heap.size := by
    obtain ⟨_, _, _, _, _, rfl⟩ := hT3
    exact Array.size_setIfInBounds
  have hc3 : W3.heap[w.heap.size]? = some (.cells #[.map none] 40 (0, 0)) := by
    rw [turned_block hT3 (by omega) (by omega), turned_block hT2 (by omega) (by omega), hk1.block _ (by omega)]
    exact hcl
  have hcell : W3.cell? ⟨w.heap.size, 0, none⟩ = some (.map none) := by simp [World.cell?, hc3]
  have hfz : W3.frozen? ⟨w.heap.size, 0, none⟩ = false := by simp [World.frozen?, hc3]
  have hO : ObjL W3 (w.heap.size + 1) (memF (l1.zip l2) (l3.zip l4)) := by
    refine ⟨w.heap.size + 1 + 1, bl, _, _, _, _, n, c, hM3, hM2.block (turned_block hT3 (by omega) (by omega)), hn, ?_⟩
    exact (hM.block (turned_block hT2 (by omega) (by omega))).block (turned_block hT3 (by omega) (by omega))
  have hkw : Kp w W3 := ((hkv.trans hk1).turned hT2 (by omega)).turned hT3 (by omega)
  have hO2 : ObjL (W3.setCell ⟨w.heap.size, 0, none⟩ (.map (some (w.heap.size + 1)))) (w.heap.size + 1) (memF (l1.zip l2) (l3.zip l4)) := by
    obtain ⟨bm, bl', n0, c0, nm, cm, n', c', g1, g2, g3, g4⟩ := hO
    have hne : ∀ {b n c f}, MapV W3 b n c f → (W3.setCell ⟨w.heap.size, 0, none⟩ (.map (some (w.heap.size + 1)))).heap[b]? = W3.heap[b]? := by
      intro b n c f h
      refine Below.heap_setCell _ _ _ _ ?_
      intro e
      subst e
      obtain ⟨D, ⟨es, clock, hh, _⟩, _⟩ := h
      rw [hc3] at hh
      cases hh
    exact ⟨bm, bl', n0, c0, nm, cm, n', c', g1.block (hne g1), g2.block (hne g2), g3, g4.block (hne g4)⟩
  have hcF : (W3.setCell ⟨w.heap.size, 0, none⟩ (.map (some (w.heap.size + 1)))).cell? ⟨w.heap.size, 0, none⟩ = some (.map (some (w.heap.size + 1))) := by
    simp [World.cell?, World.setCell, Array.getElem?_modify, hc3]
  unfold labS at hr2
  unfold metaS at hr3
  go_wp2
  refine bodyPost_ret (v := .agg #[.map (some (w.heap.size + 1))]) ?_ rfl ⟨_, rfl, hkw.setCell (Nat.le_refl _) _, hO2⟩
  simp [results, Try.results20, go_sem, hcF]

theorem one {w : World} {x : Obj} : MapV ((w.alloc x).alloc (.map #[] 0)) (w.heap.size + 1) 0 0 f0 ∧ ((w.alloc x).alloc (.map #[] 0)).heap[w.heap.size]? = some x ∧ Kp w ((w.alloc x).alloc (.map #[] 0)) ∧ ((w.alloc x).alloc (.map #[] 0)).heap.size = w.heap.size + 2 := by
  have e1 : (w.alloc x).heap.size = w.heap.size + 1 := by simp
  refine ⟨?_, ?_, ((Kp.refl w).alloc _).alloc _, by simp⟩
  · rw [← e1]
    exact MapV.made (w.alloc x)
  · rw [Below.heap_alloc _ _ _ (by omega)]
    exact heap_alloc_new _ _
theorem Sm.none : Sm [] := fun x hx => by cases hx
set_option maxHeartbeats 4000000 in
theorem labels21 (a1 a2 : Option Addr) (n1 c1 n2 c2 : Nat) (l1 l2 : List ByteArray) (w : World) (hn1 : n1 ≤ 1048576) (hn2 : n2 ≤ 1048576) (hl1 : l1.length = n1) (hl2 : l2.length = n2)
    (hR1 : RowO Value.string w a1 l1) (hR2 : RowO Value.string w a2 l2) (hs1 : Sm l1) :
    Calls Try.prog 21 #[.slice a1 n1 c1, .slice a2 n2 c2] w fun e w' => ObjPost w ObjM e w' := by
  have hmk := run_mk0 Try.underlying38
  have HC : ∀ W, Kp w W → Hid (Calls Try.prog 27 #[.slice a1 n1 c1, .slice a2 n2 c2, .slice none 0 0, .slice none 0 0] W fun e w' => MemPost W (memF (l1.zip l2) ([].zip [])) e w') := fun W hW =>
    members_any a1 a2 none none n1 c1 n2 c2 0 0 0 0 l1 l2 [] [] W hn1 hn2 (by omega) (by omega) hl1 hl2 rfl rfl (hR1.kp hW) (hR2.kp hW) (Or.inl rfl) (Or.inl rfl) hs1 Sm.none
  clear hl1 hl2 hs1 hR1 hR2
  go_enter Try.func21, Try.ntmps21
  go_wp2_with fail
  obtain ⟨hm1, hcl, hkv, hvs⟩ := one (w := w) (x := .cells #[.map none] 40)
  have hK := HC _ hkv
  change Calls _ _ _ ((w.alloc (.cells #[.map none] 40)).alloc (.map #[] 0)) _
  generalize (w.alloc (.cells #[.map none] 40)).alloc (.map #[] 0) = V at *
  clear HC hmk
  refine hK.out.mono ?_
  clear hK
  rintro e W1 ⟨bl, n, c, rfl, hbl, hn, hk1, hM⟩
  obtain ⟨W3, hr3, ⟨d3, hM3⟩, hT3⟩ := (hm1.kp hk1).run_store (t := 38) Try.underlying38 (by unfold maxLen; omega) (s := labS) labS_le (.iface 38 (.map (some bl)))
  have hsz1 := hk1.size
  have hs3 : W3.heap.size = W1.heap.size := by
    obtain ⟨_, _, _, _, _, rfl⟩ := hT3
    exact Array.size_setIfInBounds
  have hc3 : W3.heap[w.heap.size]? = some (.cells #[.map none] 40 (0, 0)) := by
    rw [turned_block hT3 (by omega) (by omega), hk1.block _ (by omega)]
    exact hcl
  have hcell : W3.cell? ⟨w.heap.size, 0, none⟩ = some (.map none) := by simp [World.cell?, hc3]
  have hfz : W3.frozen? ⟨w.heap.size, 0, none⟩ = false := by simp [World.frozen?, hc3]
  have hkw : Kp w W3 := (hkv.trans hk1).turned hT3 (by omega)
  have hO2 : ObjM (W3.setCell ⟨w.heap.size, 0, none⟩ (.map (some (w.heap.size + 1)))) (w.heap.size + 1) := by
    refine ⟨bl, _, d3, hM3.block (Below.heap_setCell _ _ _ _ ?_)⟩
    show w.heap.size + 1 ≠ w.heap.size
    omega
  have hcF : (W3.setCell ⟨w.heap.size, 0, none⟩ (.map (some (w.heap.size + 1)))).cell? ⟨w.heap.size, 0, none⟩ = some (.map (some (w.heap.size + 1))) := by
    simp [World.cell?, World.setCell, Array.getElem?_modify, hc3]
  unfold labS at hr3
  go_wp2
  refine bodyPost_ret (v := .agg #[.map (some (w.heap.size + 1))]) ?_ rfl ⟨_, rfl, hkw.setCell (Nat.le_refl _) _, hO2⟩
  simp [results, Try.results21, go_sem, hcF]
end Go.Proofs.Qxb6618663a
