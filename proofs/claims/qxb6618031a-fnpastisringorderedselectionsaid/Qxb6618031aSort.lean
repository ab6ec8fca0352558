/- The order that past sorts by; its closure; slices.SortFunc at ring.ID. -/
import Derived.Test.Qxb6618031aBtw2
import Derived.Test.Qxb6618031aShelf
set_option linter.unusedVariables false
namespace Go.Proofs.Qxb6618031a
open Go.RowKit Go.Sort Go.Shelf Go.Lib

theorem cmp3F_neg (x y : W3) : cmp3F x y < 0 ↔ Ring.lt3 x y := by
  unfold cmp3F Ring.lt3
  (repeat' split) <;> omega
theorem cmp3F_le (x y : W3) : cmp3F x y ≤ 0 ↔ ¬ Ring.lt3 y x := by
  unfold cmp3F Ring.lt3
  (repeat' split) <;> omega
theorem btw_iff (z a b : W3) : btwB z a b = true ↔ Ring.before a z b := by
  have k1 := cmp3F_neg a b
  have k2 := cmp3F_neg a z
  have k3 := cmp3F_le z b
  have t := Ring.lt3_tri z b
  have asym : Ring.lt3 z b → ¬ Ring.lt3 b z := fun h => Ring.lt3_asymm h
  unfold btwB withinB Ring.before
  cases he : eq3 z b with
  | true =>
    have hzb := (eq3_iff z b).1 he
    subst hzb
    have i1 := Ring.lt3_irrefl z
    by_cases h2 : Ring.lt3 a z <;> simp [h2, i1]
  | false =>
    have hne : z ≠ b := fun e => by rw [(eq3_iff z b).2 e] at he; cases he
    have hlt : (cmp3F z b ≤ 0) ↔ Ring.lt3 z b := by
      rw [k3]
      constructor
      · intro h
        rcases t with h' | h' | h'
        · exact h'
        · exact absurd h' hne
        · exact absurd h' h
      · exact asym
    by_cases h1 : cmp3F a b < 0 <;> by_cases h2 : cmp3F a z < 0 <;> by_cases h3 : cmp3F z b ≤ 0
    all_goals simp only [h1, h2, h3, true_iff, false_iff] at k1 k2 hlt
    all_goals simp [h1, h2, h3, k1, k2, hlt]

/-- what the closure of past answers -/
def cfF (x a b : W3) : Int := if eq3 a b = true then 0 else if btwB a x b = true then -1 else 1
theorem ltOf_cf (x a b : W3) : ltOf (cfF x) a b = true ↔ Ring.before x a b := by
  unfold ltOf cfF
  rw [← btw_iff]
  cases he : eq3 a b with
  | true =>
    have hab := (eq3_iff a b).1 he
    have hbt : btwB a x b = false := by simp [btwB, he]
    simp [hbt]
  | false => cases hb : btwB a x b <;> simp
theorem ltOf_cf_false (x a b : W3) : ltOf (cfF x) a b = false ↔ ¬ Ring.before x a b := by
  rw [← ltOf_cf]; simp
theorem swo_cf (x : W3) : SWO (ltOf (cfF x)) where
  irrefl a := (ltOf_cf_false x a a).2 (Ring.before_irrefl x a)
  trans a b c h1 h2 := (ltOf_cf x a c).2 (Ring.before_trans ((ltOf_cf x a b).1 h1) ((ltOf_cf x b c).1 h2))
  ntrans a b c h1 h2 := by
    rw [ltOf_cf_false] at *
    intro h
    rcases Ring.before_tri x a b with h' | h' | h'
    · exact h1 h'
    · subst h'; exact h2 h
    · exact h2 (Ring.before_trans h' h)

def enc3 (x : W3) : List Value := [.int .u64 x.1, .int .u64 x.2.1, .int .u64 x.2.2]

set_option maxHeartbeats 1000000 in
theorem closure_any (x a b : W3) (pb bp : Nat) (W : World) (hp : W.cell? ⟨pb, 0, none⟩ = some (.pointer (some ⟨bp, 0, none⟩))) (hpb : pb < W.heap.size) (hbp : bp < W.heap.size)
    (hx : W.cell? ⟨bp, 0, none⟩ = some (.int .u64 x.1) ∧ W.cell? ⟨bp, 1, none⟩ = some (.int .u64 x.2.1) ∧ W.cell? ⟨bp, 2, none⟩ = some (.int .u64 x.2.2)) :
    Calls Try.prog 28 #[.agg #[.int .u64 a.1, .int .u64 a.2.1, .int .u64 a.2.2], .agg #[.int .u64 b.1, .int .u64 b.2.1, .int .u64 b.2.2], .pointer (some ⟨pb, 0, none⟩)] W
      fun e w' => e = .returned (.int .i64 (cfF x a b)) ∧ Ext W w' := by
  have e30 := eql30
  have g30 := guard30
  obtain ⟨h1, h2⟩ := heap2 W (box a) (box b)
  have hE : Ext W ((W.alloc (box a)).alloc (box b)) := ((Ext.refl _).alloc _).alloc _
  obtain ⟨a0, a1, a2⟩ := boxed h1
  obtain ⟨b0, b1, b2⟩ := boxed h2
  cases he : eq3 a b with
  | true =>
    have HR : Hid (cfF x a b = 0) := by show cfF x a b = 0; simp [cfF, he]
    go_enter Try.func28, Try.ntmps28
    go_upto_region 1 with fail
    change Code.wp _ _ _ _ ((W.alloc (box a)).alloc (box b))
    generalize (W.alloc (box a)).alloc (box b) = V at h1 h2 hE a0 a1 a2 b0 b1 b2 ⊢
    go_wp2
    go_ret
    exact ⟨ret_int HR.out.symm, hE⟩
  | false =>
    have hp' := (hE.cells.1 pb 0 hpb).trans hp
    have x0 := (hE.cells.1 bp 0 hbp).trans hx.1
    have x1 := (hE.cells.1 bp 1 hbp).trans hx.2.1
    have x2 := (hE.cells.1 bp 2 hbp).trans hx.2.2
    have s1 : pb < ((W.alloc (box a)).alloc (box b)).heap.size := Nat.lt_of_lt_of_le hpb hE.size
    have s2 : bp < ((W.alloc (box a)).alloc (box b)).heap.size := Nat.lt_of_lt_of_le hbp hE.size
    cases hb : btwB a x b with
    | true =>
      have HR : Hid (cfF x a b = -1) := by show cfF x a b = -1; simp [cfF, he, hb]
      have HB := fun V => between_any a x b V
      rw [hb] at HB
      clear hb
      go_enter Try.func28, Try.ntmps28
      go_upto_region 1 with fail
      change Code.wp _ _ _ _ ((W.alloc (box a)).alloc (box b))
      generalize (W.alloc (box a)).alloc (box b) = V at h1 h2 hE a0 a1 a2 b0 b1 b2 hp' x0 x1 x2 s1 s2 ⊢
      go_wp2
      have c0 := cell_grown s1 hp'
      have c1 := cell_grown s2 x0
      have c2 := cell_grown s2 x1
      have c3 := cell_grown s2 x2
      have c4 := fun m os => (boxed (Ext.keeps (w' := grow (V.drewN m) os) ⟨m, os, rfl⟩ h1)).1
      have c5 := fun m os => (boxed (Ext.keeps (w' := grow (V.drewN m) os) ⟨m, os, rfl⟩ h1)).2.1
      have c6 := fun m os => (boxed (Ext.keeps (w' := grow (V.drewN m) os) ⟨m, os, rfl⟩ h1)).2.2
      have c7 := fun m os => (boxed (Ext.keeps (w' := grow (V.drewN m) os) ⟨m, os, rfl⟩ h2)).1
      have c8 := fun m os => (boxed (Ext.keeps (w' := grow (V.drewN m) os) ⟨m, os, rfl⟩ h2)).2.1
      have c9 := fun m os => (boxed (Ext.keeps (w' := grow (V.drewN m) os) ⟨m, os, rfl⟩ h2)).2.2
      refine wp_region_quiet_grown follows (by kernel_rfl) ?_
      repeat (go_big_quiet_step ((go_at_call 23; refine Ext.grown (HB _))))
      refine wpQuiet_nil ?_
      intro _ hw'
      obtain ⟨⟨nq, osq⟩, hw''⟩ := hw'
      subst hw''
      go_wp2
      go_ret
      exact ⟨ret_int HR.out.symm, (hE.drewN _).grow _⟩
    | false =>
      have HR : Hid (cfF x a b = 1) := by show cfF x a b = 1; simp [cfF, he, hb]
      have HB := fun V => between_any a x b V
      rw [hb] at HB
      clear hb
      go_enter Try.func28, Try.ntmps28
      go_upto_region 1 with fail
      change Code.wp _ _ _ _ ((W.alloc (box a)).alloc (box b))
      generalize (W.alloc (box a)).alloc (box b) = V at h1 h2 hE a0 a1 a2 b0 b1 b2 hp' x0 x1 x2 s1 s2 ⊢
      go_wp2
      have c0 := cell_grown s1 hp'
      have c1 := cell_grown s2 x0
      have c2 := cell_grown s2 x1
      have c3 := cell_grown s2 x2
      have c4 := fun m os => (boxed (Ext.keeps (w' := grow (V.drewN m) os) ⟨m, os, rfl⟩ h1)).1
      have c5 := fun m os => (boxed (Ext.keeps (w' := grow (V.drewN m) os) ⟨m, os, rfl⟩ h1)).2.1
      have c6 := fun m os => (boxed (Ext.keeps (w' := grow (V.drewN m) os) ⟨m, os, rfl⟩ h1)).2.2
      have c7 := fun m os => (boxed (Ext.keeps (w' := grow (V.drewN m) os) ⟨m, os, rfl⟩ h2)).1
      have c8 := fun m os => (boxed (Ext.keeps (w' := grow (V.drewN m) os) ⟨m, os, rfl⟩ h2)).2.1
      have c9 := fun m os => (boxed (Ext.keeps (w' := grow (V.drewN m) os) ⟨m, os, rfl⟩ h2)).2.2
      refine wp_region_quiet_grown follows (by kernel_rfl) ?_
      repeat (go_big_quiet_step ((go_at_call 23; refine Ext.grown (HB _))))
      refine wpQuiet_nil ?_
      intro _ hw'
      obtain ⟨⟨nq, osq⟩, hw''⟩ := hw'
      subst hw''
      go_wp2
      go_ret
      exact ⟨ret_int HR.out.symm, (hE.drewN _).grow _⟩

/-- The closure in every world that the sort passes through. -/
theorem cmpLays28 (x : W3) (pb bp blk off size : Nat) (w : World) (hp : w.cell? ⟨pb, 0, none⟩ = some (.pointer (some ⟨bp, 0, none⟩))) (hpb : pb < w.heap.size) (hbp : bp < w.heap.size) (n1 : pb ≠ blk) (n2 : bp ≠ blk)
    (hx : w.cell? ⟨bp, 0, none⟩ = some (.int .u64 x.1) ∧ w.cell? ⟨bp, 1, none⟩ = some (.int .u64 x.2.1) ∧ w.cell? ⟨bp, 2, none⟩ = some (.int .u64 x.2.2)) :
    CmpLays Try.prog 28 #[.pointer (some ⟨pb, 0, none⟩)] enc3 3 (cfF x) blk off size w := by
  intro m os dk hdk a b
  have hsz : (putRowK enc3 3 (Sort.ahead w m) blk off dk).heap.size = w.heap.size := by simp [putRowK, putRow, mapBlock, Sort.ahead]
  have tr : ∀ (q : Nat) (o : Nat), q < w.heap.size → q ≠ blk → (sortWorldK enc3 3 w blk off m dk os).cell? ⟨q, o, none⟩ = w.cell? ⟨q, o, none⟩ := fun q o hq hne => by
    unfold sortWorldK
    rw [cell?_grow _ _ _ (by rw [hsz]; exact hq), cell?_putRowK_other _ _ _ _ _ _ _ hne]
    rfl
  have hS : ∀ q, q < w.heap.size → q < (sortWorldK enc3 3 w blk off m dk os).heap.size := fun q hq => by
    unfold sortWorldK
    rw [size_grow, hsz]
    omega
  have := closure_any x a b pb bp (sortWorldK enc3 3 w blk off m dk os) ((tr pb 0 hpb n1).trans hp) (hS pb hpb) (hS bp hbp) ⟨(tr bp 0 hbp n2).trans hx.1, (tr bp 1 hbp n2).trans hx.2.1, (tr bp 2 hbp n2).trans hx.2.2⟩
  exact this
end Go.Proofs.Qxb6618031a
