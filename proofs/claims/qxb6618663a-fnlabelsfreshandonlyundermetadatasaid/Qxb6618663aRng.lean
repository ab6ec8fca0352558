/- A range over a map keyed by strings; the state of Labels' loop. -/
import Derived.Test.Qxb6618663aObj
set_option linter.unusedVariables false
namespace Go.Proofs.Qxb6618663a
open Go.RowKit Go.Sort Go.Maps

/-- block r ranges over the map at bl, that holds f; the keys of 'todo' are still to come -/
def Rng (W : World) (bl r n : Nat) (f : Fn) (todo : ByteArray → Bool) (cnt : Nat) : Prop :=
  ∃ (D : DataW Value) (left : Lit → Bool), W.ranges Try.prog 9 RV bl r n D left cnt ∧ (∀ s, left (keyL s) = todo s) ∧ ∀ s, Maps.has D (keyL s) = (f s).isSome ∧ ∀ v, f s = some v → ∀ z, D.atKey (keyL s) z = .held v
def strike (todo : ByteArray → Bool) (x : ByteArray) : ByteArray → Bool := fun s => if s = x then false else todo s
theorem Rng.left_eq {W : World} {bl r n : Nat} {f : Fn} {todo : ByteArray → Bool} {cnt : Nat} (h : Rng W bl r n f todo cnt) : W.rangeLeft bl r = cnt := by
  obtain ⟨D, left, h1, _⟩ := h
  exact h1.left_eq
theorem Rng.kept {W W' : World} {bl r n : Nat} {f : Fn} {todo : ByteArray → Bool} {cnt : Nat} {row : Option Nat} (h : Rng W bl r n f todo cnt) (hg : W.grownBy W' row) (h1 : some bl ≠ row) (h2 : some r ≠ row) : Rng W' bl r n f todo cnt := by
  obtain ⟨D, left, k1, k2⟩ := h
  exact ⟨D, left, k1.kept hg h1 h2, k2⟩
theorem Rng.alloc {W : World} {bl r n : Nat} {f : Fn} {todo : ByteArray → Bool} {cnt : Nat} (h : Rng W bl r n f todo cnt) (o : Obj) : Rng (W.alloc o) bl r n f todo cnt := by
  obtain ⟨D, left, k1, k2⟩ := h
  exact ⟨D, left, k1.alloc o, k2⟩
theorem Rng.lt {W : World} {bl r n : Nat} {f : Fn} {todo : ByteArray → Bool} {cnt : Nat} (h : Rng W bl r n f todo cnt) : r < W.heap.size := by
  obtain ⟨D, left, h1, _⟩ := h
  exact h1.lt
theorem Rng.ne_map {W : World} {bl r n : Nat} {f : Fn} {todo : ByteArray → Bool} {cnt : Nat} (h : Rng W bl r n f todo cnt) {b n' c : Nat} {g : Fn} (hM : MapV W b n' c g) : b ≠ r := by
  obtain ⟨D, left, ⟨_, _, _, _, _, _, _, _, _, hr, _⟩, _⟩ := h
  obtain ⟨D', ⟨es, clock, hb, _⟩, _⟩ := hM
  intro e
  rw [e, hr] at hb
  cases hb

section
variable (w : World) {ops : Array Oper} {rest : List Oper} {o : Oper} {a : Act} {Q : Exit → Act → World → Prop}
theorem wpList_range_V (hg : o.guard = none) (m : Operand) (t : TypeId) (hop : o.op = Op.range t m) (e : TypeId) (ht : Try.prog.underlying t = some (.map 9 e)) (b n c : Nat) (f : Fn)
    (hm : a.eval m = .map (some b)) (hown : MapV w b n c f)
    (hK : ∀ w', Rng w' b w.heap.size n f (fun s => (f s).isSome) c → w.grownBy w' none → w'.heap.size = w.heap.size + 1 → wpList Try.prog ops Q rest (a.put o.dst (.pointer (some ⟨w.heap.size, 0, none⟩))) w') :
    wpList Try.prog ops Q (o :: rest) a w := by
  obtain ⟨D, hD, hc, hf⟩ := hown
  refine wpList_range_own w hg m t hop 9 e law ht RV b n D hm hD fun w' h1 h2 h3 => hK w' ⟨D, Maps.has D, ?_, fun s => (hf s).1, hf⟩ h2 h3
  rw [← hc]
  exact h1
theorem wpList_next_V (hg : o.guard = none) (it : Operand) (hop : o.op = Op.next it false) (b r n : Nat) (f : Fn) (todo : ByteArray → Bool) (cnt : Nat)
    (hit : a.eval it = .pointer (some ⟨r, 0, none⟩)) (h : Rng w b r n f todo cnt)
    (hDone : (∀ s, todo s = false) → wpList Try.prog ops Q rest (a.put o.dst (.tuple #[.bool false])) w)
    (hMore : ∀ (x : ByteArray) (v : Value) (w' : World) (cnt' : Nat), x.size ≤ maxLen → todo x = true → f x = some v → Rng w' b r n f (strike todo x) cnt' → cnt' < cnt →
      w.grownBy w' (some r) → w'.heap.size = w.heap.size → (Instr.entry (.pointer (some ⟨r, 0, none⟩))).run Try.prog w' = .ok (.tuple #[.string x, v]) w' → wpList Try.prog ops Q rest (a.put o.dst (.tuple #[.bool true, .string x, v])) w') :
    wpList Try.prog ops Q (o :: rest) a w := by
  obtain ⟨D, left, h1, h2, hf⟩ := h
  refine wpList_next_ranges w hg it hop 9 law RV Value.string (id : Value → Value) (fun key kl hk => by obtain ⟨s, e, _⟩ := key_inv hk; exact ⟨s, e⟩) (fun v y _ => ⟨v, rfl⟩) b r n D left cnt hit h1 (fun _ hl => hDone fun s => by rw [← h2 s]; exact hl _) ?_
  intro x v kl y w' cnt' hkey hlk hv hat hrg hlt hgr hsz hen
  obtain ⟨s, e1, rfl, hs⟩ := key_inv hkey
  injection e1 with e1
  subst e1
  unfold RV at hv
  injection hv with hv
  subst hv
  have hh := Maps.has_true_of_atKey hat
  rw [(hf x).1] at hh
  obtain ⟨u, hu⟩ := Option.isSome_iff_exists.1 hh
  have huv : u = v := by
    have h3 := hat .nil
    rw [(hf x).2 u hu] at h3
    injection h3
  subst huv
  refine hMore x u w' cnt' hs (by rw [← h2 x]; exact hlk) hu ⟨D, _, hrg, fun s => ?_, hf⟩ hlt hgr hsz hen
  unfold strike
  rw [h2 s]
  by_cases hsx : s = x
  · subst hsx
    rw [WideAt.sameKey_self (keyL_lit s)]
    simp
  · rw [if_neg hsx, Maps.sameKey_ne (fun e => hsx (keyL_inj e))]
    simp
end

/-! what Labels has gathered -/
def strV : Value → Option Value
  | .iface 9 (.string u) => some (.string u)
  | _ => none
def strF (f : Fn) : Fn := fun s => (f s).bind strV
def glf (f : Fn) (todo : ByteArray → Bool) : Fn := fun s => if todo s = true then none else strF f s
theorem glf_start (f : Fn) : glf f (fun s => (f s).isSome) = f0 := by
  funext s
  unfold glf strF f0
  cases h : f s <;> simp [h]
theorem glf_end {f : Fn} {todo : ByteArray → Bool} (h : ∀ s, todo s = false) : glf f todo = strF f := by
  funext s
  unfold glf
  rw [h s]
  simp
theorem glf_str {f : Fn} {todo : ByteArray → Bool} {x u : ByteArray} (hf : f x = some (.iface 9 (.string u))) : glf f (strike todo x) = upd (glf f todo) x (.string u) := by
  funext s
  unfold glf strike upd
  by_cases h : s = x
  · subst h
    simp [strF, hf, strV]
  · simp [h]
theorem glf_int {f : Fn} {todo : ByteArray → Bool} {x : ByteArray} {z : Int} (hf : f x = some (.iface 2 (.int .i64 z))) : glf f (strike todo x) = glf f todo := by
  funext s
  unfold glf strike
  by_cases h : s = x
  · subst h
    simp [strF, hf, strV]
  · simp [h]
def Good (f : Fn) : Prop := ∀ s v, f s = some v → (∃ u, v = .iface 9 (.string u)) ∨ ∃ z, v = .iface 2 (.int .i64 z)
theorem good_upd {f : Fn} (h : Good f) (s : ByteArray) (v : Value) (hv : (∃ u, v = .iface 9 (.string u)) ∨ ∃ z, v = .iface 2 (.int .i64 z)) : Good (upd f s v) := by
  intro t u hu
  unfold upd at hu
  split at hu
  · injection hu with hu
    rw [← hu]; exact hv
  · exact h t u hu
theorem good_puts {α : Type} {mk : α → Value} (hmk : ∀ x, (∃ u, mk x = .iface 9 (.string u)) ∨ ∃ z, mk x = .iface 2 (.int .i64 z)) : ∀ (l : List (ByteArray × α)) (f : Fn), Good f → Good (puts mk f l)
  | [], f, h => h
  | x :: l, f, h => good_puts hmk l _ (good_upd h x.1 (mk x.2) (hmk x.2))
theorem good_mem (l : List (ByteArray × ByteArray)) (q : List (ByteArray × Int)) : Good (memF l q) :=
  good_puts (fun z => Or.inr ⟨z, rfl⟩) q _ (good_puts (fun u => Or.inl ⟨u, rfl⟩) l _ (fun s v h => by cases h))

/-- the labels gathered: nil while there is none -/
def Lab (w W : World) (v : Value) (m : Nat) (g : Fn) : Prop :=
  (v = .map none ∧ ∀ s, g s = none) ∨ ∃ b n c, v = .map (some b) ∧ w.heap.size ≤ b ∧ n + m ≤ 2097152 ∧ MapV W b n c g ∧ ∃ s, (g s).isSome = true
def LSt (w W : World) (bl r n : Nat) (f : Fn) (v : Value) : Prop :=
  ∃ todo cnt, Rng W bl r n f todo cnt ∧ Kp w W ∧ cnt ≤ 2097152 ∧ Lab w W v cnt (glf f todo)
def LabPost (w : World) (g : Fn) (e : Ending) (w' : World) : Prop := Kp w w' ∧ ∃ v, e = .returned v ∧ Lab w w' v 0 g
end Go.Proofs.Qxb6618663a
