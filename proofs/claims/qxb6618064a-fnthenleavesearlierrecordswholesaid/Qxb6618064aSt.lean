/- the law's steps: what stays through a call. -/
import Derived.Test.Qxb6618064aThn
set_option linter.unusedVariables false
namespace Go.Proofs.Qxb6618064a
open Go.RowKit Go.Sort Go.Maps Go.WideShapes Go.ChangeShapes Go.WideMaps Plain

structure Step (own own' : Nat → Option Nat) (Ls Ls' : Nat → Option (List A2)) (W W' : World) : Prop where
  kept : Kept (fun b => own b ≠ none) W W'
  no : ∀ b, b < W.heap.size → own b = none → own' b = none
  grow : ∀ p L, Ls p = some L → ∃ L', Ls' p = some L' ∧ L <+: L'
theorem Step.refl (own : Nat → Option Nat) (Ls : Nat → Option (List A2)) (W : World) : Step own own Ls Ls W W := ⟨(Ext.refl W).kept _, fun _ _ h => h, fun p L h => ⟨L, h, List.prefix_rfl⟩⟩
theorem Step.trans {o1 o2 o3 : Nat → Option Nat} {L1 L2 L3 : Nat → Option (List A2)} {A B C : World} (h : Step o1 o2 L1 L2 A B) (k : Step o2 o3 L2 L3 B C) : Step o1 o3 L1 L3 A C := by
  have hs := h.kept.size
  refine ⟨h.kept.trans k.kept (fun i hi hn e => hn (h.no i hi e)), fun b hb ho => k.no b (by omega) (h.no b hb ho), fun p L hp => ?_⟩
  obtain ⟨L', a, b⟩ := h.grow p L hp
  obtain ⟨L'', c, d⟩ := k.grow p L' a
  exact ⟨L'', c, b.trans d⟩
theorem Step.of_ext {own : Nat → Option Nat} {Ls : Nat → Option (List A2)} {W W' : World} (h : Ext W W') : Step own own Ls Ls W W' := ⟨h.kept _, fun _ _ h => h, fun p L h => ⟨L, h, List.prefix_rfl⟩⟩
theorem Step.of_below {own : Nat → Option Nat} {Ls : Nat → Option (List A2)} {W W' : World} (h : Below W.heap.size W W') : Step own own Ls Ls W W' := ⟨Below.kept' h _, fun _ _ h => h, fun p L h => ⟨L, h, List.prefix_rfl⟩⟩
theorem Inv.below {own : Nat → Option Nat} {Ls : Nat → Option (List A2)} {W W' : World} (hI : Inv W own Ls) (h : Below W.heap.size W W') : Inv W' own Ls := hI.kept (Below.kept' h fun _ => False) (fun _ _ h => h.elim)
/-- an attribute row that belongs to no log -/
def RowU (own : Nat → Option Nat) (W : World) (ao : Option Addr) (l : List A2) : Prop := l = [] ∨ ∃ b off, ao = some ⟨b, off, none⟩ ∧ RowA W b off l ∧ own b = none
theorem RowU.row {own : Nat → Option Nat} {W : World} {ao : Option Addr} {l : List A2} (h : RowU own W ao l) : RowO W ao l := by
  rcases h with h | ⟨b, off, e, hR, _⟩
  · exact Or.inl h
  · exact Or.inr ⟨b, off, e, hR⟩
theorem RowA.block {w w' : World} {b off : Nat} {l : List A2} (h : RowA w b off l) (e : w'.heap[b]? = w.heap[b]?) (hs : w.heap.size ≤ w'.heap.size) : RowA w' b off l := by
  refine ⟨Nat.lt_of_lt_of_le h.1 hs, fun i x hx => ?_⟩
  obtain ⟨c0, c1⟩ := h.2 i x hx
  exact ⟨(World.cell?_of_block (w := w) (a := ⟨b, _, none⟩) e).trans c0, (World.cell?_of_block (w := w) (a := ⟨b, _, none⟩) e).trans c1⟩
theorem RowU.step {own own' : Nat → Option Nat} {Ls Ls' : Nat → Option (List A2)} {W W' : World} {ao : Option Addr} {l : List A2} (h : RowU own W ao l) (hS : Step own own' Ls Ls' W W') : RowU own' W' ao l := by
  rcases h with h | ⟨b, off, e, hR, ho⟩
  · exact Or.inl h
  · exact Or.inr ⟨b, off, e, hR.block (hS.kept.block b hR.1 (fun hn => hn ho)) hS.kept.size, hS.no b hR.1 ho⟩
theorem RowU.mk {own : Nat → Option Nat} {Ls : Nat → Option (List A2)} {W W' : World} {g : Nat} {l : List A2} (hI : Inv W own Ls) (hg : W.heap.size ≤ g) (h : RowA W' g 0 l) : RowU own W' (some ⟨g, 0, none⟩) l := Or.inr ⟨g, 0, rfl, h, hI.fresh g hg⟩
/-- a block that belongs to no log -/
def BlkU (own : Nat → Option Nat) (W : World) (b : Nat) (po : Option Nat) (l : List A2) : Prop := W.heap[b]? = some (recObj (po.map fun p => ⟨p, 0, none⟩) l.length (firsts l).length (sumW l) (sumW (mergeL l))) ∧ own b = none
theorem BlkU.step {own own' : Nat → Option Nat} {Ls Ls' : Nat → Option (List A2)} {W W' : World} {b : Nat} {po : Option Nat} {l : List A2} (h : BlkU own W b po l) (hS : Step own own' Ls Ls' W W') : BlkU own' W' b po l := by
  have hb := (Array.getElem?_eq_some_iff.1 h.1).1
  exact ⟨(hS.kept.block b hb (fun hn => hn h.2)).trans h.1, hS.no b hb h.2⟩
theorem BlkU.cells {own : Nat → Option Nat} {W : World} {b : Nat} {po : Option Nat} {l : List A2} (h : BlkU own W b po l) : W.cell? ⟨b, 0, none⟩ = some (.pointer (po.map fun p => ⟨p, 0, none⟩)) ∧ W.cell? ⟨b, 1, none⟩ = some (.int .i64 l.length) ∧ W.cell? ⟨b, 2, none⟩ = some (.int .i64 (firsts l).length) ∧ W.cell? ⟨b, 3, none⟩ = some (.int .i64 (sumW l)) ∧ W.cell? ⟨b, 4, none⟩ = some (.int .i64 (sumW (mergeL l))) ∧ (∀ o, W.frozen? ⟨b, o, none⟩ = false) ∧ b < W.heap.size := cells27 h.1
theorem BlkU.mk {own : Nat → Option Nat} {Ls : Nat → Option (List A2)} {W : World} {po : Option Nat} {l : List A2} (hI : Inv W own Ls) : BlkU own (W.alloc (recObj (po.map fun p => ⟨p, 0, none⟩) l.length (firsts l).length (sumW l) (sumW (mergeL l)))) W.heap.size po l := ⟨heap_alloc_new _ _, hI.fresh _ (Nat.le_refl _)⟩
theorem MRPost.step {w W : World} {own : Nat → Option Nat} {Ls : Nat → Option (List A2)} {l : List A2} {e : Ending} (h : MRPost w own Ls l e W) : ∃ own' Ls' po, e = .returned (recL po l) ∧ Inv W own' Ls' ∧ RecAt Ls' po l ∧ (∀ p, po = some p → w.heap.size ≤ p ∧ p < W.heap.size) ∧ Step own own' Ls Ls' w W := by
  obtain ⟨own', Ls', po, he, hI, hr, hg, hf, hB, ho⟩ := h
  refine ⟨own', Ls', po, he, hI, hr, fun p hp => ⟨hf p hp, ?_⟩, Below.kept' hB _, fun b hb h => by rw [ho b hb]; exact h, fun p L h => ⟨L, hg p L h, List.prefix_rfl⟩⟩
  obtain ⟨⟨_, h2⟩ | ⟨_, q, L, h1, h2, _⟩, _⟩ := hr
  · rw [h2] at hp; cases hp
  · rw [h1] at hp
    injection hp with hp
    subst hp
    obtain ⟨⟨_, _, _, hL, _⟩, _⟩ := hI.lgo _ L h2
    exact hL.lt.1
theorem ThenPost.step {w W : World} {own : Nat → Option Nat} {Ls : Nat → Option (List A2)} {pr ps : Option Nat} {lr ls : List A2} {e : Ending} (h : ThenPost w own Ls pr ps lr ls e W) : ∃ own' Ls' pt lt, e = .returned (recL pt lt) ∧ Inv W own' Ls' ∧ RecAt Ls' pt lt ∧ Like lt (lr ++ ls) ∧ sumW lt ≤ sumW lr + sumW ls ∧ (pt = pr ∨ pt = ps ∨ ∃ p, pt = some p ∧ w.heap.size ≤ p) ∧ Step own own' Ls Ls' w W := by
  obtain ⟨own', Ls', pt, lt, he, hI, hr, hlk, hs, hg, hp, hK, hn⟩ := h
  exact ⟨own', Ls', pt, lt, he, hI, hr, hlk, hs, hp, hK, hn, hg⟩
/-! the copying callees, nil or not -/
def CopyPost (T : TypeId) (n : Nat) (l : List A2) (w : World) (e : Ending) (W : World) : Prop := ∃ co, e = .returned (.slice co n n) ∧ Ext w W ∧ (l = [] ∨ ∃ g, co = some ⟨g, 0, none⟩ ∧ w.heap.size ≤ g ∧ RowA W g 0 l) ∧ (co = none → n = 0)
theorem clone_o (ao : Option Addr) (n cap : Nat) (l : List A2) (w : World) (hn : n ≤ 200000) (hl : l.length = n) (hR : RowO w ao l) (hz : ao = none → n = 0 ∧ cap = 0) : Calls Try.prog 6 #[.slice ao n cap] w fun e w' => CopyPost 51 n l w e w' := by
  cases ao with
  | none =>
    obtain ⟨rfl, rfl⟩ := hz rfl
    refine (clone_nil w).mono ?_
    rintro e w' ⟨rfl, hE⟩
    exact ⟨none, rfl, hE, Or.inl (List.eq_nil_of_length_eq_zero hl), fun _ => rfl⟩
  | some a =>
    refine (clone_some a n cap l w hn hl hR).mono ?_
    rintro e w' ⟨rfl, hE, hB⟩
    exact ⟨_, rfl, hE, Or.inr ⟨_, rfl, Nat.le_refl _, hB.row⟩, fun h => by cases h⟩
theorem toX_o (ao : Option Addr) (n : Nat) (l : List A2) (w : World) (hn : n ≤ 200000) (hl : l.length = n) (hR : RowO w ao l) (hz : ao = none → n = 0) : Calls Try.prog 8 #[.slice ao n n] w fun e w' => CopyPost 56 n l w e w' := by
  cases ao with
  | none =>
    have := hz rfl
    subst this
    refine (toX_nil w).mono ?_
    rintro e w' ⟨rfl, hE⟩
    exact ⟨none, rfl, hE, Or.inl (List.eq_nil_of_length_eq_zero hl), fun _ => rfl⟩
  | some a =>
    refine (toX_some a n n l w hn hl hR).mono ?_
    rintro e w' ⟨rfl, hE, hB⟩
    exact ⟨_, rfl, hE, Or.inr ⟨_, rfl, Nat.le_refl _, hB.row⟩, fun h => by cases h⟩
theorem CopyPost.row {T : TypeId} {n : Nat} {l : List A2} {w W : World} {co : Option Addr} (h : l = [] ∨ ∃ g, co = some ⟨g, 0, none⟩ ∧ w.heap.size ≤ g ∧ RowA W g 0 l) {own : Nat → Option Nat} {Ls : Nat → Option (List A2)} (hI : Inv w own Ls) : RowU own W co l := by
  rcases h with h | ⟨g, rfl, hg, hR⟩
  · exact Or.inl h
  · exact RowU.mk hI hg hR

/-! countsAgree -/
set_option maxHeartbeats 1000000 in
theorem counts_any (ao : Option Addr) (cap : Nat) (l : List A2) (w : World) (hs : sumW l ≤ 1048576) (hR : RowO w ao l) (hh : sumW l ≤ 2 * sumW (mergeL l)) :
    Calls Try.prog 16 #[.int .i64 l.length, .int .i64 (firsts l).length, .int .i64 (sumW l), .int .i64 (sumW (mergeL l)), .slice ao l.length cap] w fun e w' => e = .returned (.bool true) ∧ Below w.heap.size w w' := by
  have h32 := len_le_sumW l
  have hms := sumW_merge_le l
  have hfl := firsts_le l
  have hml : (mergeL l).length = (firsts l).length := merge_len l
  have hmo := model_any ao l.length cap l w (by omega) rfl hR (sizes_of hs)
  have HMO : Hid (Calls Try.prog 14 #[.slice ao l.length cap] w fun e w' => ModelPost w w' l e) := hmo
  have hmi : (2 : Int) * (sumW (mergeL l) : Int) ≤ 4000000 := by omega
  have hhi : (sumW l : Int) ≤ 2 * (sumW (mergeL l) : Int) := by omega
  have HML : Hid _ := hml
  clear hmo hml
  go_enter Try.func16, Try.ntmps16
  go_wp2_with fail
  refine HMO.out.mono ?_
  rintro e W1 ⟨g, rfl, hg, hB1, hbel⟩
  rw [HML.out] at hB1 ⊢
  have hrow1 : RowO W1 ao l := by
    rcases hR with h | ⟨b, off, e, h⟩
    · exact Or.inl h
    · exact Or.inr ⟨b, off, e, h.of_below hbel h.1⟩
  have hrow2 : RowO W1 (some ⟨g, 0, none⟩) (mergeL l) := Or.inr ⟨g, 0, rfl, hB1.row⟩
  have HR1 : Hid (RowO W1 ao l) := hrow1
  have HR2 : Hid (RowO W1 (some ⟨g, 0, none⟩) (mergeL l)) := hrow2
  clear hrow1 hrow2 hB1 hR
  go_wp2_with fail
  refine (held_any ao l.length cap l W1 (by omega) rfl HR1.out (by omega)).mono ?_
  rintro e W2 ⟨rfl, hE2⟩
  have HR3 : Hid (RowO W2 (some ⟨g, 0, none⟩) (mergeL l)) := HR2.out.ext hE2
  go_wp2_with fail
  refine (held_any (some ⟨g, 0, none⟩) (firsts l).length (firsts l).length (mergeL l) W2 (by omega) HML.out HR3.out (by omega)).mono ?_
  rintro e W3 ⟨rfl, hE3⟩
  go_wp2
  go_ret
  exact ⟨rfl, hbel.trans ((hE2.trans hE3).below.mono hbel.size)⟩
end Go.Proofs.Qxb6618064a
