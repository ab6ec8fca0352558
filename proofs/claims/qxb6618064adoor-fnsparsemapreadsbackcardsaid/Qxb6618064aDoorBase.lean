/-
  Seat b6618064aD. Base: the relation 'Ext w w'' (only draws and new blocks), its laws, the closing tactic's facts.
-/
import Derived.Test.Qxb6618064aDoorRows
import Derived.Deep.DeepCutAuto
import Derived.OwnWalk
import Derived.WalkKit
import Derived.WalkSpells
import Derived.WalkLawsBesides
import Derived.Deep.QuietTactic
import Derived.BigQuiet
import Derived.Shelf.SlSortCmp.QuietGrown
namespace Go.Proofs.Qxb6618064aDoor
open Go.RowKit Go.Sort

/-- w' is w after some draws, with new blocks behind its heap; nothing old has turned. -/
def Ext (w w' : World) : Prop := ∃ q os', w' = grow (w.drewN q) os'

theorem Ext.refl (w : World) : Ext w w := ⟨0, #[], by rw [grow_empty]; rfl⟩
theorem grow_drewN (w : World) (os : Array Obj) (n : Nat) : (grow w os).drewN n = grow (w.drewN n) os := rfl
theorem Ext.trans {a b c : World} (h : Ext a b) (k : Ext b c) : Ext a c := by
  obtain ⟨q, os, rfl⟩ := h
  obtain ⟨r, ps, rfl⟩ := k
  exact ⟨q + r, os ++ ps, by rw [grow_drewN, grow_grow, World.drewN_drewN]⟩
theorem Ext.alloc {a w : World} (h : Ext a w) (o : Obj) : Ext a (w.alloc o) := by
  obtain ⟨q, os, rfl⟩ := h
  exact ⟨q, os ++ #[o], by rw [alloc_eq_grow, grow_grow]⟩
theorem Ext.drewN {a w : World} (h : Ext a w) (n : Nat) : Ext a (w.drewN n) := by
  obtain ⟨q, os, rfl⟩ := h
  exact ⟨q + n, os, by rw [grow_drewN, World.drewN_drewN]⟩
theorem Ext.drew {a w : World} (h : Ext a w) : Ext a w.drew := h.drewN 1
theorem Ext.grow {a w : World} (h : Ext a w) (os : Array Obj) : Ext a (Sort.grow w os) := by
  obtain ⟨q, ps, rfl⟩ := h
  exact ⟨q, ps ++ os, by rw [grow_grow]⟩
theorem Ext.setCell {a w : World} (h : Ext a w) {p : Addr} (hp : a.heap.size ≤ p.block) (u : Value) : Ext a (w.setCell p u) := by
  obtain ⟨q, os, rfl⟩ := h
  refine ⟨q, os.modify (p.block - a.heap.size) fun | .cells c elem frozen => .cells (if p.spot.isSome then c else c.setIfInBounds p.off u) elem frozen | o => o, ?_⟩
  unfold World.setCell Sort.grow
  show ({ heap := Array.modify (a.heap ++ os) _ _, .. } : World) = _
  rw [modify_append_right _ _ _ _ hp]
  rfl
theorem Ext.size {a w : World} (h : Ext a w) : a.heap.size ≤ w.heap.size := by
  obtain ⟨q, os, rfl⟩ := h
  rw [size_grow]; exact Nat.le_add_right _ _
theorem Ext.block {a w : World} (h : Ext a w) (k : Nat) (hk : k < a.heap.size) : w.heap[k]? = a.heap[k]? := by
  obtain ⟨q, os, rfl⟩ := h
  exact heap_grow_old (a.drewN q) os hk
theorem Ext.below {a w : World} (h : Ext a w) : Below a.heap.size a w := by
  refine ⟨?_, ?_, ?_, h.size, h.block⟩ <;> (obtain ⟨q, os, rfl⟩ := h; rfl)
theorem Ext.cells {W w1 : World} (h : Ext W w1) : (∀ b o, b < W.heap.size → w1.cell? ⟨b, o, none⟩ = W.cell? ⟨b, o, none⟩) ∧ (∀ b o, b < W.heap.size → w1.frozen? ⟨b, o, none⟩ = W.frozen? ⟨b, o, none⟩) :=
  ⟨fun b o hb => h.below.cell (p := ⟨b, o, none⟩) hb, fun b o hb => h.below.frozen (p := ⟨b, o, none⟩) hb⟩
/-- a callee's contract, met inside a quiet region -/
theorem Ext.grown {P : Program} {f : FuncId} {args : Array Value} {w : World} {n : Nat} {os : Array Obj} {v : Value}
    (h : Calls P f args (Sort.grow (w.drewN n) os) fun e w' => e = .returned v ∧ Ext (Sort.grow (w.drewN n) os) w') :
    Calls P f args (Sort.grow (w.drewN n) os) fun e w'' => e = .returned v ∧ ∃ p : GrownBy, w'' = Sort.grow (w.drewN p.n) p.os :=
  Calls.grown_of h
theorem follows : Tryd.prog.follows .mixedOrders = true := by kernel_rfl

end Go.Proofs.Qxb6618064aDoor
