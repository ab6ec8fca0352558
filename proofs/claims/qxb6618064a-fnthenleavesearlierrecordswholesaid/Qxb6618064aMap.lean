/- Maps keyed by strings that the call makes, as functions. -/
import Derived.Test.Qxb6618064aJoin
import Derived.Maps.OwnSet
import Derived.Maps.OwnOps
import Derived.Maps.StringElems
import Derived.Maps.Views
set_option linter.unusedVariables false
namespace Go.Proofs.Qxb6618064a
open Go.RowKit Go.Sort Go.Maps Go.WideShapes Go.ChangeShapes Go.WideMaps

theorem law : Keyed Try.prog 9 := string_keyed Try.underlying9
def keyL (s : ByteArray) : Lit := .string s.data.toList
theorem keyL_inj {s t : ByteArray} (h : keyL s = keyL t) : s = t := by
  unfold keyL at h
  injection h with h
  obtain ⟨a⟩ := s
  obtain ⟨b⟩ := t
  congr 1
  exact Array.toList_inj.1 h
theorem keyL_lit (s : ByteArray) : WideAt.IsKeyLit (keyL s) := by unfold keyL; simp [WideAt.IsKeyLit]
theorem key_of {s : ByteArray} (h : s.size ≤ maxLen) : keyOf Try.prog 9 (.string s) = some (keyL s) := keyOf_string_mk Try.underlying9 h

/-- block b is a map of c entries, its elements of type e, that holds what f says -/
def MapL (e : TypeId) (w : World) (b n c : Nat) (f : ByteArray → Option Lit) : Prop :=
  ∃ D : DataW Unit, w.ownsMap Try.prog 9 (plainElem Try.prog e) b n D ∧ Maps.size D = c ∧ ∀ s, Maps.has D (keyL s) = (f s).isSome ∧ ∀ v, f s = some v → ∀ z, D.atKey (keyL s) z = .lit v
theorem MapL.made (e : TypeId) (w : World) : MapL e (w.alloc (.map #[] 0)) w.heap.size 0 0 (fun _ => none) :=
  ⟨.map [], World.ownsMap_made _ _ _ _, rfl, fun s => ⟨rfl, fun v h => by cases h⟩⟩
theorem MapL.lt {e : TypeId} {w : World} {b n c : Nat} {f : ByteArray → Option Lit} (h : MapL e w b n c f) : b < w.heap.size := by
  obtain ⟨D, hD, _⟩ := h
  exact hD.lt
theorem MapL.block {e : TypeId} {w w' : World} {b n c : Nat} {f : ByteArray → Option Lit} (h : MapL e w b n c f) (hb : w'.heap[b]? = w.heap[b]?) : MapL e w' b n c f := by
  obtain ⟨D, ⟨es, clock, h1, h2⟩, h3⟩ := h
  exact ⟨D, ⟨es, clock, hb.trans h1, h2⟩, h3⟩
theorem MapL.ext {e : TypeId} {w w' : World} {b n c : Nat} {f : ByteArray → Option Lit} (h : MapL e w b n c f) (hE : Ext w w') : MapL e w' b n c f := h.block (hE.block b h.lt)
theorem MapL.congr {e : TypeId} {w : World} {b n c c' : Nat} {f g : ByteArray → Option Lit} (h : MapL e w b n c f) (hc : c = c') (hfg : ∀ s, f s = g s) : MapL e w b n c' g := by
  obtain ⟨D, h1, h2, h3⟩ := h
  refine ⟨D, h1, h2.trans hc, fun s => ?_⟩
  rw [← hfg s]
  exact h3 s
theorem MapL.mono {e : TypeId} {w : World} {b n n' c : Nat} {f : ByteArray → Option Lit} (h : MapL e w b n c f) (hn : n ≤ n') : MapL e w b n' c f := by
  obtain ⟨D, h1, h2⟩ := h
  exact ⟨D, h1.mono hn, h2⟩
theorem MapL.cnt_le {e : TypeId} {w : World} {b n c : Nat} {f : ByteArray → Option Lit} (h : MapL e w b n c f) : c ≤ n := by
  obtain ⟨D, h1, h2, _⟩ := h
  rw [← h2]
  exact h1.size_le
/-- a map's block set anew, beyond the blocks of a -/
theorem Ext.turned {a w w' : World} {b : Nat} (h : Ext a w) (ht : w.mapTurned w' b) (hb : a.heap.size ≤ b) : Ext a w' := by
  obtain ⟨es, clock, es', clock', hw, rfl⟩ := ht
  obtain ⟨q, os, rfl⟩ := h
  refine ⟨q, os.setIfInBounds (b - a.heap.size) (.map es' clock'), ?_⟩
  show ({ (Sort.grow (a.drewN q) os) with heap := (a.heap ++ os).setIfInBounds b (.map es' clock') } : World) = ({ (Sort.grow (a.drewN q) os) with heap := a.heap ++ os.setIfInBounds (b - a.heap.size) (.map es' clock') } : World)
  rw [Array.setIfInBounds_append_right hb]

theorem MapL.put {e : TypeId} {w w' : World} {b n c : Nat} {f : ByteArray → Option Lit} {D : DataW Unit} {s : ByteArray} {v : Lit} (hc : Maps.size D = c) (hD : w.ownsMap Try.prog 9 (plainElem Try.prog e) b n D)
    (hf : ∀ s, Maps.has D (keyL s) = (f s).isSome ∧ ∀ v, f s = some v → ∀ z, D.atKey (keyL s) z = .lit v) (hD' : w'.ownsMap Try.prog 9 (plainElem Try.prog e) b (n + 1) (D.put (keyL s) (.lit v))) :
    MapL e w' b (n + 1) (if (f s).isSome then c else c + 1) (fun t => if t = s then some v else f t) := by
  have hT := hD.tidy law
  refine ⟨_, hD', ?_, fun t => ?_⟩
  · rw [Maps.size_put hT, (hf s).1, hc]
  · by_cases h : t = s
    · subst h
      dsimp only
      rw [if_pos rfl]
      refine ⟨by rw [Maps.has_put_same hT.isMap (keyL_lit t)]; rfl, fun u hu z => ?_⟩
      injection hu with hu
      subst hu
      exact Maps.atKey_put_same hT.isMap (keyL_lit t) _ z
    · dsimp only
      rw [if_neg h]
      have hne : keyL t ≠ keyL s := fun e => h (keyL_inj e)
      refine ⟨by rw [Maps.has_put_other hne]; exact (hf t).1, fun u hu z => ?_⟩
      rw [Maps.atKey_put_other hne]
      exact (hf t).2 u hu z

/-! at the operation, for the walk -/
section
variable (w : World) {ops : Array Oper} {rest : List Oper} {o : Oper} {a : Act} {Q : Exit → Act → World → Prop}
theorem wpList_store_L (hg : o.guard = none) (m x v : Operand) (t : TypeId) (hop : o.op = Op.mapUpdate t m x v) (e : TypeId) (ht : Try.prog.underlying t = some (.map 9 e)) (b n c : Nat) (f : ByteArray → Option Lit)
    (hm : a.eval m = .map (some b)) (hown : MapL e w b n c f) (hn : n < maxLen) (s : ByteArray) (hx : a.eval x = .string s) (hs : s.size ≤ maxLen) (val : Value) (hv : a.eval v = val) (l : Lit) (hval : plainElem (H := Unit) Try.prog e val = some (.lit l, []))
    (hK : ∀ w', MapL e w' b (n + 1) (if (f s).isSome then c else c + 1) (fun t => if t = s then some l else f t) → w.mapTurned w' b → wpList Try.prog ops Q rest (a.put o.dst undef) w') :
    wpList Try.prog ops Q (o :: rest) a w := by
  obtain ⟨D, hD, hc, hf⟩ := hown
  exact wpList_mapUpdate_in w hg m x v t hop 9 e law ht _ b n D hm hD hn (.string s) val (keyL s) hx hv (key_of hs) (.lit l) [] hval fun w' h1 h2 => hK w' (MapL.put hc hD hf h1) h2
theorem wpList_look_L (hg : o.guard = none) (m x : Operand) (t : TypeId) (hop : o.op = Op.lookup t m x true) (e : TypeId) (ht : Try.prog.underlying t = some (.map 9 e)) (he : Try.prog.underlying e = some (.int .i64)) (hz : (zeroValue e).run Try.prog w = .ok (.int .i64 0) w) (b n c : Nat) (f : ByteArray → Option Lit)
    (hm : a.eval m = .map (some b)) (hown : MapL e w b n c f) (s : ByteArray) (hx : a.eval x = .string s) (hs : s.size ≤ maxLen)
    (hK : ∀ i : Int, (∀ l, f s = some l → l = .int .i64 i) → wpList Try.prog ops Q rest (a.put o.dst (.tuple #[.int .i64 i, .bool (f s).isSome])) w) :
    wpList Try.prog ops Q (o :: rest) a w := by
  obtain ⟨D, hD, hc, hf⟩ := hown
  refine wpList_lookup_own_ok_int w hg m x t hop 9 e .i64 law ht he hz b n D hm hD (.string s) (keyL s) hx (key_of hs) fun i hat _ => ?_
  rw [(hf s).1]
  refine hK i fun l hl => ?_
  rw [(hf s).2 l hl] at hat
  injection hat
end

/-! the runs themselves, for regions that draw their order -/
theorem MapL.run_store {e t : TypeId} {w : World} {b n c : Nat} {f : ByteArray → Option Lit} (h : MapL e w b n c f) (ht : Try.prog.underlying t = some (.map 9 e)) (hn : n < maxLen) {s : ByteArray} (hs : s.size ≤ maxLen) {val : Value} {l : Lit} (hval : plainElem (H := Unit) Try.prog e val = some (.lit l, [])) :
    ∃ w', (Instr.mapUpdate t (.map (some b)) (.string s) val).run Try.prog w = .ok () w' ∧ MapL e w' b (n + 1) (if (f s).isSome then c else c + 1) (fun t => if t = s then some l else f t) ∧ w.mapTurned w' b := by
  obtain ⟨D, hD, hc, hf⟩ := h
  obtain ⟨w', h1, h2, h3⟩ := hD.store law ht hn (key_of hs) hval
  exact ⟨w', h1, MapL.put hc hD hf h2, h3⟩
theorem MapL.run_look {e t : TypeId} {w : World} {b n c : Nat} {f : ByteArray → Option Lit} (h : MapL e w b n c f) (ht : Try.prog.underlying t = some (.map 9 e)) (he : Try.prog.underlying e = some (.int .i64)) (hz : (zeroValue e).run Try.prog w = .ok (.int .i64 0) w) {s : ByteArray} (hs : s.size ≤ maxLen) :
    ∃ i : Int, (Instr.lookup t (.map (some b)) (.string s) true).run Try.prog w = .ok (.tuple #[.int .i64 i, .bool (f s).isSome]) w ∧ ∀ l, f s = some l → l = .int .i64 i := by
  obtain ⟨D, hD, hc, hf⟩ := h
  obtain ⟨v, ps, h1, h2⟩ := hD.look_ok law ht hz (plainElem_int he (by decide)) (key_of hs)
  obtain ⟨i, rfl, hi, _⟩ := plainElem_int_inv he h2
  rw [(hf s).1] at h1
  refine ⟨i, h1, fun l hl => ?_⟩
  have hat := congrArg Prod.fst hi
  simp only [(hf s).2 l hl] at hat
  injection hat
theorem MapL.run_str {e t : TypeId} {w : World} {b n c : Nat} {f : ByteArray → Option Lit} (h : MapL e w b n c f) (ht : Try.prog.underlying t = some (.map 9 e)) (he : Try.prog.underlying e = some .string) (hz : (zeroValue e).run Try.prog w = .ok (.string ByteArray.empty) w) {s : ByteArray} (hs : s.size ≤ maxLen) {v : ByteArray} (hv : f s = some (keyL v)) :
    (Instr.lookup t (.map (some b)) (.string s) false).run Try.prog w = .ok (.string v) w := by
  obtain ⟨D, hD, hc, hf⟩ := h
  obtain ⟨u, ps, h1, h2⟩ := hD.lookup law ht hz (plainElem_string he (s := ByteArray.empty) (by simp)) (key_of hs)
  obtain ⟨i, rfl, hi, _⟩ := plainElem_string_inv he h2
  have hat := congrArg Prod.fst hi
  simp only [(hf s).2 _ hv] at hat
  injection hat with hat
  have : i = v := keyL_inj hat.symm
  rw [← this]
  exact h1
theorem MapL.run_bool {e t : TypeId} {w : World} {b n c : Nat} {f : ByteArray → Option Lit} (h : MapL e w b n c f) (ht : Try.prog.underlying t = some (.map 9 e)) (he : Try.prog.underlying e = some .bool) (hz : (zeroValue e).run Try.prog w = .ok (.bool false) w) {s : ByteArray} (hs : s.size ≤ maxLen) (hf1 : ∀ l, f s = some l → l = .bool true) :
    (Instr.lookup t (.map (some b)) (.string s) false).run Try.prog w = .ok (.bool (f s).isSome) w := by
  obtain ⟨D, hD, hc, hf⟩ := h
  obtain ⟨u, ps, h1, h2⟩ := hD.lookup law ht hz (plainElem_bool he false) (key_of hs)
  have hu : u = .bool (f s).isSome := by
    cases hfs : f s with
    | none =>
      rw [Maps.atKey_of_not_has (by rw [(hf s).1, hfs]; rfl)] at h2
      unfold plainElem at h2
      rw [he] at h2
      cases u <;> simp at h2
      rw [h2.1]
      rfl
    | some l =>
      rw [(hf s).2 l hfs, hf1 l hfs] at h2
      unfold plainElem at h2
      rw [he] at h2
      cases u <;> simp at h2
      rw [h2.1]
      rfl
  rw [← hu]
  exact h1
end Go.Proofs.Qxb6618064a
