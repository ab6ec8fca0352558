/-
  Seat b6618663a. Base: 'Kp a w' (below a's blocks w is as a was), rows of one-cell elements, maps keyed by strings as functions.
-/
import Derived.Test.Qxb6618663aRows
import Derived.Deep.DeepCutAuto
import Derived.Deep.CutBlock
import Derived.OwnWalk
import Derived.WalkKit
import Derived.WalkSpells
import Derived.WalkLawsBesides
import Derived.Deep.QuietTactic
import Derived.BigQuiet
import Derived.Shelf.SlSortCmp.QuietGrown
import Derived.Maps.OwnSet
import Derived.Maps.OwnOps
import Derived.Maps.Views
import Derived.Maps.RangeWalk
import Derived.Laws.IdiomRangeMap
import Derived.Laws.CopyOwn
set_option linter.unusedVariables false
namespace Go.Proofs.Qxb6618663a
open Go.RowKit Go.Sort Go.Maps Go.WideShapes Go.ChangeShapes Go.WideMaps

def Kp (a w : World) : Prop := Below a.heap.size a w
theorem Kp.refl (w : World) : Kp w w := Below.refl _ _
theorem Kp.size {a w : World} (h : Kp a w) : a.heap.size ≤ w.heap.size := Below.size h
theorem Kp.trans {a b c : World} (h : Kp a b) (k : Kp b c) : Kp a c := Below.trans h (Below.mono k h.size)
theorem Kp.alloc {a w : World} (h : Kp a w) (o : Obj) : Kp a (w.alloc o) := Below.alloc h h.size o
theorem Kp.drew {a w : World} (h : Kp a w) : Kp a w.drew := Below.drew h
theorem Kp.setCell {a w : World} (h : Kp a w) {p : Addr} (hp : a.heap.size ≤ p.block) (u : Value) : Kp a (w.setCell p u) := Below.setCell h hp u
theorem Kp.grown {a w w' : World} {row : Option Nat} (h : Kp a w) (hg : w.grownBy w' row) (hr : ∀ k, row = some k → a.heap.size ≤ k) : Kp a w' := Below.grown h hg h.size hr
theorem Kp.turned {a w w' : World} {b : Nat} (h : Kp a w) (ht : w.mapTurned w' b) (hb : a.heap.size ≤ b) : Kp a w' := h.grown ht.grown (fun k hk => by injection hk with hk; omega)
theorem Kp.block {a w : World} (h : Kp a w) (k : Nat) (hk : k < a.heap.size) : w.heap[k]? = a.heap[k]? := Below.block h k hk
theorem Kp.cell {a w : World} (h : Kp a w) {p : Addr} (hp : p.block < a.heap.size) : w.cell? p = a.cell? p := Below.cell h hp

/-! rows of one-cell elements -/
def RowG {α : Type} (mk : α → Value) (w : World) (b off : Nat) (l : List α) : Prop := b < w.heap.size ∧ ∀ i x, l[i]? = some x → w.cell? ⟨b, off + i, none⟩ = some (mk x)
theorem RowG.kp {α : Type} {mk : α → Value} {w w' : World} {b off : Nat} {l : List α} (h : RowG mk w b off l) (hE : Kp w w') : RowG mk w' b off l :=
  ⟨Nat.lt_of_lt_of_le h.1 hE.size, fun i x hx => (hE.cell (p := ⟨b, off + i, none⟩) h.1).trans (h.2 i x hx)⟩
def RowO {α : Type} (mk : α → Value) (w : World) (ao : Option Addr) (l : List α) : Prop := l = [] ∨ ∃ b off, ao = some ⟨b, off, none⟩ ∧ RowG mk w b off l
theorem RowO.kp {α : Type} {mk : α → Value} {w w' : World} {ao : Option Addr} {l : List α} (h : RowO mk w ao l) (hE : Kp w w') : RowO mk w' ao l := by
  rcases h with h | ⟨b, off, e, hR⟩
  · exact Or.inl h
  · exact Or.inr ⟨b, off, e, hR.kp hE⟩
theorem RowO.get {α : Type} {mk : α → Value} {w : World} {ao : Option Addr} {l : List α} (h : RowO mk w ao l) {i : Nat} (hi : i < l.length) : ∃ b off x, ao = some ⟨b, off, none⟩ ∧ b < w.heap.size ∧ w.cell? ⟨b, off + i, none⟩ = some (mk x) ∧ l[i]? = some x := by
  rcases h with h | ⟨b, off, e, hR⟩
  · rw [h] at hi; simp at hi
  · exact ⟨b, off, l[i], e, hR.1, hR.2 i _ (List.getElem?_eq_getElem hi), List.getElem?_eq_getElem hi⟩

/-! maps keyed by strings -/
theorem law : Keyed Try.prog 9 := string_keyed Try.underlying9
def keyL (s : ByteArray) : Lit := .string s.data.toList
theorem keyL_inj {s t : ByteArray} (h : keyL s = keyL t) : s = t := by
  unfold keyL at h
  injection h with h
  obtain ⟨a⟩ := s
  obtain ⟨b⟩ := t
  congr 1
  exact Array.toList_inj.1 h
theorem keyL_lit (s : ByteArray) : WideAt.IsKeyLit (keyL s) := by unfold keyL; simp [WideAt.IsKeyLit]
theorem key_of {s : ByteArray} (h : s.size ≤ maxLen) : keyOf Try.prog 9 (.string s) = some (keyL s) := keyOf_string_mk Try.underlying9 h
theorem key_inv {key : Value} {kl : Lit} (h : keyOf Try.prog 9 key = some kl) : ∃ s : ByteArray, key = .string s ∧ kl = keyL s ∧ s.size ≤ maxLen := by
  cases key <;> simp [keyOf, Try.underlying9, mapKey] at h
  obtain ⟨h1, rfl⟩ := h
  exact ⟨_, rfl, rfl, h1⟩

/-- an element reads as itself -/
def RV (v : Value) : Option (DataW Value × List MemPlace) := some (.held v, [])
/-- block b is a map of c entries (n at most) that holds what f says -/
def MapV (w : World) (b n c : Nat) (f : ByteArray → Option Value) : Prop :=
  ∃ D : DataW Value, w.ownsMap Try.prog 9 RV b n D ∧ Maps.size D = c ∧ ∀ s, Maps.has D (keyL s) = (f s).isSome ∧ ∀ v, f s = some v → ∀ z, D.atKey (keyL s) z = .held v
def f0 : ByteArray → Option Value := fun _ => none
def upd (f : ByteArray → Option Value) (s : ByteArray) (v : Value) : ByteArray → Option Value := fun t => if t = s then some v else f t
def del (f : ByteArray → Option Value) (s : ByteArray) : ByteArray → Option Value := fun t => if t = s then none else f t
theorem MapV.made (w : World) : MapV (w.alloc (.map #[] 0)) w.heap.size 0 0 f0 :=
  ⟨.map [], World.ownsMap_made _ _ _ _, rfl, fun s => ⟨rfl, fun v h => by cases h⟩⟩
theorem MapV.lt {w : World} {b n c : Nat} {f : ByteArray → Option Value} (h : MapV w b n c f) : b < w.heap.size := by
  obtain ⟨D, hD, _⟩ := h
  exact hD.lt
theorem MapV.block {w w' : World} {b n c : Nat} {f : ByteArray → Option Value} (h : MapV w b n c f) (hb : w'.heap[b]? = w.heap[b]?) : MapV w' b n c f := by
  obtain ⟨D, ⟨es, clock, h1, h2⟩, h3⟩ := h
  exact ⟨D, ⟨es, clock, hb.trans h1, h2⟩, h3⟩
theorem MapV.kp {w w' : World} {b n c : Nat} {f : ByteArray → Option Value} (h : MapV w b n c f) (hE : Kp w w') : MapV w' b n c f := h.block (hE.block b h.lt)
theorem MapV.congr {w : World} {b n c : Nat} {f g : ByteArray → Option Value} (h : MapV w b n c f) (hfg : ∀ s, f s = g s) : MapV w b n c g := by
  have : f = g := funext hfg
  rw [← this]
  exact h
theorem MapV.mono {w : World} {b n n' c : Nat} {f : ByteArray → Option Value} (h : MapV w b n c f) (hn : n ≤ n') : MapV w b n' c f := by
  obtain ⟨D, h1, h2⟩ := h
  exact ⟨D, h1.mono hn, h2⟩
theorem MapV.put {w w' : World} {b n n' c : Nat} {f : ByteArray → Option Value} {D : DataW Value} {s : ByteArray} {v : Value} (hc : Maps.size D = c) (hD : w.ownsMap Try.prog 9 RV b n D)
    (hf : ∀ s, Maps.has D (keyL s) = (f s).isSome ∧ ∀ v, f s = some v → ∀ z, D.atKey (keyL s) z = .held v) (hD' : w'.ownsMap Try.prog 9 RV b n' (D.put (keyL s) (.held v))) :
    ∃ c', MapV w' b n' c' (upd f s v) := by
  have hT := hD.tidy law
  refine ⟨_, _, hD', rfl, fun t => ?_⟩
  unfold upd
  by_cases h : t = s
  · subst h
    rw [if_pos rfl]
    refine ⟨by rw [Maps.has_put_same hT.isMap (keyL_lit t)]; rfl, fun u hu z => ?_⟩
    injection hu with hu
    subst hu
    exact Maps.atKey_put_same hT.isMap (keyL_lit t) _ z
  · rw [if_neg h]
    have hne : keyL t ≠ keyL s := fun e => h (keyL_inj e)
    refine ⟨by rw [Maps.has_put_other hne]; exact (hf t).1, fun u hu z => ?_⟩
    rw [Maps.atKey_put_other hne]
    exact (hf t).2 u hu z
theorem MapV.strike {w w' : World} {b n n' c : Nat} {f : ByteArray → Option Value} {D : DataW Value} {s : ByteArray} (hc : Maps.size D = c) (hD : w.ownsMap Try.prog 9 RV b n D)
    (hf : ∀ s, Maps.has D (keyL s) = (f s).isSome ∧ ∀ v, f s = some v → ∀ z, D.atKey (keyL s) z = .held v) (hD' : w'.ownsMap Try.prog 9 RV b n' (D.del (keyL s))) :
    ∃ c', MapV w' b n' c' (del f s) := by
  refine ⟨_, _, hD', rfl, fun t => ?_⟩
  unfold del
  by_cases h : t = s
  · subst h
    rw [if_pos rfl]
    exact ⟨by rw [Maps.has_del_same]; rfl, fun u hu => by cases hu⟩
  · rw [if_neg h]
    have hne : keyL t ≠ keyL s := fun e => h (keyL_inj e)
    refine ⟨by rw [Maps.has_del_other hne]; exact (hf t).1, fun u hu z => ?_⟩
    rw [Maps.atKey_del_other hne]
    exact (hf t).2 u hu z
/-! the number of entries -/
theorem nodup_len {α : Type} [DecidableEq α] : ∀ (l m : List α), l.Pairwise (· ≠ ·) → (∀ x ∈ l, x ∈ m) → l.length ≤ m.length
  | [], m, _, _ => by simp
  | a :: l, m, hp, hs => by
    have ha : a ∈ m := hs a (by simp)
    rw [List.pairwise_cons] at hp
    have := nodup_len l (m.erase a) hp.2 (fun x hx => (List.mem_erase_of_ne (fun e => hp.1 x hx e.symm)).2 (hs x (by simp [hx])))
    rw [List.length_erase_of_mem ha] at this
    have : 0 < m.length := List.length_pos_of_mem ha
    simp only [List.length_cons]
    omega
/-- the keys of a map, as strings -/
theorem MapV.keyS {w : World} {b n c : Nat} {f : ByteArray → Option Value} (h : MapV w b n c f) : ∃ ks : List ByteArray, ks.Pairwise (· ≠ ·) ∧ ks.length = c ∧ ∀ s, s ∈ ks ↔ (f s).isSome = true := by
  obtain ⟨D, hD, hc, hf⟩ := h
  have hD2 := hD
  obtain ⟨es, clock, hb, F, hs, hDe⟩ := hD2
  obtain ⟨ent, he, hpw, hkl⟩ := hD.entries law
  have hkeys : ∀ p ∈ ent, ∃ s, p.1 = keyL s := by
    intro p hp
    have hee : ent = (es.toList.map (WideElems.rg Try.prog 9 RV)).foldr DataW.insert [] := by
      rw [hDe] at he
      injection he with he
      exact he.symm
    rw [hee] at hp
    have hp2 := mem_sorted.1 hp
    obtain ⟨v, hv⟩ := Maps.fit_keys F p hp2
    obtain ⟨s, _, hs2, _⟩ := key_inv hv
    exact ⟨s, hs2⟩
  have bld : ∀ l : List (Lit × DataW Value), l.Pairwise (fun p q => p.1 ≠ q.1) → (∀ p ∈ l, ∃ s, p.1 = keyL s) → ∃ ks : List ByteArray, ks.Pairwise (· ≠ ·) ∧ ks.length = l.length ∧ ∀ s, s ∈ ks ↔ ∃ p ∈ l, p.1 = keyL s := by
    intro l
    induction l with
    | nil => intro _ _; exact ⟨[], List.Pairwise.nil, rfl, fun s => by simp⟩
    | cons p l ih =>
      intro hp hk
      rw [List.pairwise_cons] at hp
      obtain ⟨ks, k1, k2, k3⟩ := ih hp.2 (fun q hq => hk q (by simp [hq]))
      obtain ⟨s, hs⟩ := hk p (by simp)
      refine ⟨s :: ks, List.pairwise_cons.2 ⟨fun t ht e => ?_, k1⟩, by simp [k2], fun t => ?_⟩
      · obtain ⟨q, hq, hqt⟩ := (k3 t).1 ht
        exact hp.1 q hq (by rw [hs, hqt, e])
      · rw [List.mem_cons, k3 t]
        constructor
        · rintro (h | ⟨q, hq, hqt⟩)
          · exact ⟨p, by simp, by rw [hs, h]⟩
          · exact ⟨q, by simp [hq], hqt⟩
        · rintro ⟨q, hq, hqt⟩
          rcases List.mem_cons.1 hq with h | h
          · left
            rw [h, hs] at hqt
            exact (keyL_inj hqt).symm
          · exact Or.inr ⟨q, h, hqt⟩
  obtain ⟨ks, k1, k2, k3⟩ := bld ent hpw hkeys
  refine ⟨ks, k1, ?_, fun s => ?_⟩
  · rw [k2, ← hc, he]
    rfl
  · rw [k3 s, ← (hf s).1, he, Maps.has_eq, List.any_eq_true]
    constructor
    · rintro ⟨p, hp, e⟩
      exact ⟨p, hp, by rw [e]; exact WideAt.sameKey_self (keyL_lit s)⟩
    · rintro ⟨p, hp, e⟩
      exact ⟨p, hp, WideAt.sameKey_eq e⟩
theorem MapV.count {w w' : World} {b b' n n' c c' : Nat} {f : ByteArray → Option Value} (h : MapV w b n c f) (h' : MapV w' b' n' c' f) : c = c' := by
  obtain ⟨ks, a1, a2, a3⟩ := h.keyS
  obtain ⟨ks', b1, b2, b3⟩ := h'.keyS
  have x1 := nodup_len ks ks' a1 (fun x hx => (b3 x).2 ((a3 x).1 hx))
  have x2 := nodup_len ks' ks b1 (fun x hx => (a3 x).2 ((b3 x).1 hx))
  omega
theorem MapV.zero {w : World} {b n c : Nat} {f : ByteArray → Option Value} (h : MapV w b n c f) : c = 0 ↔ ∀ s, f s = none := by
  obtain ⟨ks, a1, a2, a3⟩ := h.keyS
  constructor
  · intro e s
    have hk : ks = [] := List.eq_nil_of_length_eq_zero (by omega)
    cases hf : f s with
    | none => rfl
    | some v =>
      have := (a3 s).2 (by rw [hf]; rfl)
      rw [hk] at this
      cases this
  · intro e
    cases ks with
    | nil => exact a2.symm
    | cons s t =>
      have := (a3 s).1 (by simp)
      rw [e s] at this
      cases this
theorem MapV.cnt_le {w : World} {b n c : Nat} {f : ByteArray → Option Value} (h : MapV w b n c f) : c ≤ n := by
  obtain ⟨D, h1, h2, _⟩ := h
  rw [← h2]
  exact h1.size_le
/-! the runs -/
theorem MapV.run_store {t e : TypeId} {w : World} {b n c : Nat} {f : ByteArray → Option Value} (h : MapV w b n c f) (ht : Try.prog.underlying t = some (.map 9 e)) (hn : n < maxLen) {s : ByteArray} (hs : s.size ≤ maxLen) (v : Value) :
    ∃ w', (Instr.mapUpdate t (.map (some b)) (.string s) v).run Try.prog w = .ok () w' ∧ (∃ c', MapV w' b (n + 1) c' (upd f s v)) ∧ w.mapTurned w' b := by
  obtain ⟨D, hD, hc, hf⟩ := h
  obtain ⟨w', h1, h2, h3⟩ := hD.store (val := v) (d := .held v) (ps := []) law ht hn (key_of hs) rfl
  exact ⟨w', h1, MapV.put hc hD hf h2, h3⟩
theorem MapV.run_del {t e : TypeId} {w : World} {b n c : Nat} {f : ByteArray → Option Value} (h : MapV w b n c f) (ht : Try.prog.underlying t = some (.map 9 e)) {s : ByteArray} (hs : s.size ≤ maxLen) (ty : TypeId) :
    ∃ w', (Builtin.delete_ #[t, 9] ty #[.map (some b), .string s]).run Try.prog w = .ok (.tuple #[]) w' ∧ (∃ c', MapV w' b n c' (del f s)) ∧ w.mapTurned w' b := by
  obtain ⟨D, hD, hc, hf⟩ := h
  obtain ⟨w', h1, h2, h3⟩ := hD.drop law ht (key_of hs) ty
  exact ⟨w', h1, MapV.strike hc hD hf h2, h3⟩
theorem at_val {D : DataW Value} {f : ByteArray → Option Value} {s : ByteArray} {z v : Value} {ps : List MemPlace} (hf : Maps.has D (keyL s) = (f s).isSome ∧ ∀ v, f s = some v → ∀ z, D.atKey (keyL s) z = .held v) (h : RV v = some (D.atKey (keyL s) (.held z), ps)) : v = (f s).getD z := by
  unfold RV at h
  injection h with h
  injection h with h _
  cases hfs : f s with
  | none =>
    rw [Maps.atKey_of_not_has (by rw [hf.1, hfs]; rfl)] at h
    injection h
  | some u =>
    rw [hf.2 u hfs] at h
    injection h
theorem MapV.run_look {t e : TypeId} {w : World} {b n c : Nat} {f : ByteArray → Option Value} (h : MapV w b n c f) (ht : Try.prog.underlying t = some (.map 9 e)) {z : Value} (hz : (zeroValue e).run Try.prog w = .ok z w) {s : ByteArray} (hs : s.size ≤ maxLen) :
    (Instr.lookup t (.map (some b)) (.string s) false).run Try.prog w = .ok ((f s).getD z) w := by
  obtain ⟨D, hD, hc, hf⟩ := h
  obtain ⟨v, ps, h1, h2⟩ := hD.lookup law ht hz (zd := .held z) (zp := []) rfl (key_of hs)
  rw [← at_val (hf s) h2]
  exact h1
theorem MapV.run_look_ok {t e : TypeId} {w : World} {b n c : Nat} {f : ByteArray → Option Value} (h : MapV w b n c f) (ht : Try.prog.underlying t = some (.map 9 e)) {z : Value} (hz : (zeroValue e).run Try.prog w = .ok z w) {s : ByteArray} (hs : s.size ≤ maxLen) :
    (Instr.lookup t (.map (some b)) (.string s) true).run Try.prog w = .ok (.tuple #[(f s).getD z, .bool (f s).isSome]) w := by
  obtain ⟨D, hD, hc, hf⟩ := h
  obtain ⟨v, ps, h1, h2⟩ := hD.look_ok law ht hz (zd := .held z) (zp := []) rfl (key_of hs)
  rw [← at_val (hf s) h2, ← (hf s).1]
  exact h1
theorem MapV.run_len {t e : TypeId} {w : World} {b n c : Nat} {f : ByteArray → Option Value} (h : MapV w b n c f) (ht : Try.prog.underlying t = some (.map 9 e)) (ty : TypeId) : (Builtin.len_ #[t] ty #[.map (some b)]).run Try.prog w = .ok (.int .i64 c) w := by
  obtain ⟨D, hD, hc, hf⟩ := h
  rw [← hc]
  exact hD.len ht ty
theorem turned_block {w w' : World} {b b' : Nat} (h : w.mapTurned w' b) (hb : b' < w.heap.size) (hne : b' ≠ b) : w'.heap[b']? = w.heap[b']? := by
  obtain ⟨_, _, _, _, h5⟩ := h.grown
  exact h5 b' hb (by simpa using hne)
theorem follows : Try.prog.follows .mixedOrders = true := by kernel_rfl
end Go.Proofs.Qxb6618663a
