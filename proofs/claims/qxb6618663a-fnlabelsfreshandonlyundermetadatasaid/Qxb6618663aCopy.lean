/- 'zzc := make(..); copy(zzc, xs)': a row copied whole. The plain law. -/
import Derived.Test.Qxb6618663aLab
set_option linter.unusedVariables false
namespace Go.Proofs.Qxb6618663a
open Go.RowKit Go.Sort Go.Maps

def mk9 (n : Nat) : Array Value := madeCells (Value.cells (.string ByteArray.empty)) n
def mk2 (n : Nat) : Array Value := madeCells (Value.cells (.int .i64 0)) n
theorem info9 : (Try.prog.info? 9).map (fun i => (i.zero, i.size, i.bytes)) = some (some (.string ByteArray.empty), 1, 16) := by kernel_rfl
theorem info2 : (Try.prog.info? 2).map (fun i => (i.zero, i.size, i.bytes)) = some (some (.int .i64 0), 1, 8) := by kernel_rfl
theorem size9 : (Try.prog.info? 9).map (·.size) = some 1 := by kernel_rfl
theorem size2 : (Try.prog.info? 2).map (·.size) = some 1 := by kernel_rfl
theorem run_make23 (n : Nat) (hn : n ≤ 1048576) (w : World) : (Instr.makeSlice 23 (.int .i64 n) (.int .i64 n)).run Try.prog w = .ok (.slice (some ⟨w.heap.size, 0, none⟩) n n) (w.alloc (.cells (mk9 n) 9)) := by
  obtain ⟨i, hi, hz, hs, hb⟩ := info_parts info9
  have := run_make (P := Try.prog) w 23 9 i _ Try.underlying23 hi hz .i64 .i64 n n (by omega) (by omega) (by rw [hb]; omega) (by omega)
  rw [hs, Nat.mul_one] at this
  exact this
theorem run_make47 (n : Nat) (hn : n ≤ 1048576) (w : World) : (Instr.makeSlice 47 (.int .i64 n) (.int .i64 n)).run Try.prog w = .ok (.slice (some ⟨w.heap.size, 0, none⟩) n n) (w.alloc (.cells (mk2 n) 2)) := by
  obtain ⟨i, hi, hz, hs, hb⟩ := info_parts info2
  have := run_make (P := Try.prog) w 47 2 i _ Try.underlying47 hi hz .i64 .i64 n n (by omega) (by omega) (by rw [hb]; omega) (by omega)
  rw [hs, Nat.mul_one] at this
  exact this
theorem splice_all {α : Type} (L cs : List α) (h : L.length = cs.length) : splice L 0 cs = cs := by
  unfold splice
  rw [List.take_zero, List.drop_of_length_le (by omega)]
  simp

theorem wpList_copy_row {α : Type} {mk : α → Value} {ops : Array Oper} {rest : List Oper} {o : Oper} {a : Act} {Q : Exit → Act → World → Prop} (V : World) (elem : TypeId) (cur : Array Value) (n : Nat) (hcur : cur.size = n) (hgd : o.guard = none) (d s : Operand) (dT : TypeId)
    (ho : o.op = .call { callee := .builtin .copy, args := #[d, s], argTypes := #[dT, dT] }) (hu : Try.prog.underlying dT = some (.slice elem)) (hsz : (Try.prog.info? elem).map (·.size) = some 1)
    (p : Addr) (cap : Nat) (l : List α) (hl : l.length = n) (hR : RowO mk V (some p) l) (hone : ∀ x, (mk x).oneCell' = true)
    (hd : a.eval d = .slice (some ⟨V.heap.size, 0, none⟩) n n) (hs : a.eval s = .slice (some p) n cap)
    (h : ∀ w', Kp V w' → RowO mk w' (some ⟨V.heap.size, 0, none⟩) l → wpList Try.prog ops Q rest (a.put o.dst (.int .i64 n)) w') :
    wpList Try.prog ops Q (o :: rest) a (V.alloc (.cells cur elem)) := by
  have hK : Kp V (V.alloc (.cells cur elem)) := (Kp.refl V).alloc _
  have hlen : (l.map mk).length = n := by rw [List.length_map]; exact hl
  refine wpList_copy_splice (P := Try.prog) hgd d s dT dT ho elem hu hsz (some ⟨V.heap.size, 0, none⟩) (some p) n n n cap hd hs V.heap.size 0 cur.toList elem ?_ (l.map mk) ?_ ?_ ?_ ?_ V.heap.size V hK (Nat.le_refl _) ?_
  · rw [Array.toArray_toList]
    exact heap_alloc_new _ _
  · rw [hlen]; simp
  · intro h0
    refine ⟨rfl, p, rfl, fun j v hj => ?_⟩
    rw [List.getElem?_map] at hj
    cases hx : l[j]? with
    | none => rw [hx] at hj; cases hj
    | some x =>
      rw [hx] at hj
      injection hj with hj
      subst hj
      rcases hR with h | ⟨b, off, e, hRr⟩
      · rw [h] at hx; simp at hx
      · injection e with e
        subst e
        have hA : Addr.add ⟨b, off, none⟩ j = ⟨b, off + j, none⟩ := by
          unfold Addr.add
          by_cases hj0 : j = 0 <;> simp [hj0]
        rw [hA]
        exact (hRr.kp hK).2 j x hx
  · rw [hlen, Array.length_toList]; omega
  · intro v hv
    obtain ⟨x, _, rfl⟩ := List.mem_map.1 hv
    exact hone x
  · intro w' HG hB
    rw [hlen]
    refine h w' hB (Or.inr ⟨V.heap.size, 0, rfl, ?_⟩)
    have hg := HG.out
    rw [splice_all _ _ (by rw [Array.length_toList, hlen]; exact hcur)] at hg
    refine ⟨(Array.getElem?_eq_some_iff.1 hg).1, fun i x hx => ?_⟩
    simp [World.cell?, hg, hx]

/-! the plain law -/
theorem puts_spec {α : Type} (mk : α → Value) (s : ByteArray) : ∀ (q : List (ByteArray × α)) (f : Fn), (∃ x ∈ q, x.1 = s ∧ puts mk f q s = some (mk x.2)) ∨ ((∀ x ∈ q, x.1 ≠ s) ∧ puts mk f q s = f s)
  | [], f => Or.inr ⟨fun x hx => (by cases hx), rfl⟩
  | y :: q, f => by
    rcases puts_spec mk s q (upd f y.1 (mk y.2)) with ⟨x, hx, h1, h2⟩ | ⟨h1, h2⟩
    · exact Or.inl ⟨x, List.mem_cons_of_mem _ hx, h1, h2⟩
    · by_cases hy : y.1 = s
      · refine Or.inl ⟨y, List.mem_cons_self, hy, ?_⟩
        show puts mk (upd f y.1 (mk y.2)) q s = _
        rw [h2]
        simp [upd, hy]
      · refine Or.inr ⟨fun x hx => ?_, ?_⟩
        · rcases List.mem_cons.1 hx with e | e
          · rw [e]; exact hy
          · exact h1 x e
        · show puts mk (upd f y.1 (mk y.2)) q s = _
          rw [h2]
          unfold upd
          rw [if_neg (fun e => hy e.symm)]
def tru {α : Type} (_ : α) : Value := .bool true
/-- is s a number's name? -/
def isN (q : List (ByteArray × Int)) (s : ByteArray) : Bool := (puts tru f0 q s).isSome
theorem isN_val (q : List (ByteArray × Int)) (s : ByteArray) : (puts tru f0 q s).getD (.bool false) = .bool (isN q s) := by
  unfold isN
  rcases puts_spec tru s q f0 with ⟨x, _, _, h⟩ | ⟨_, h⟩
  · rw [h]; rfl
  · rw [h]; rfl
theorem isN_iff (q : List (ByteArray × Int)) (s : ByteArray) : isN q s = true ↔ ∃ x ∈ q, x.1 = s := by
  unfold isN
  rcases puts_spec tru s q f0 with ⟨x, h1, h2, h⟩ | ⟨h1, h⟩
  · rw [h]; exact ⟨fun _ => ⟨x, h1, h2⟩, fun _ => rfl⟩
  · rw [h]
    constructor
    · intro e; cases e
    · rintro ⟨x, h2, h3⟩; exact absurd h3 (h1 x h2)
def wstep (q : List (ByteArray × Int)) (f : Fn) (x : ByteArray × ByteArray) : Fn := if isN q x.1 = true then f else upd f x.1 (.string x.2)
def wantF (q : List (ByteArray × Int)) (l : List (ByteArray × ByteArray)) : Fn := l.foldl (wstep q) f0
theorem wantF_snoc (q : List (ByteArray × Int)) {l : List (ByteArray × ByteArray)} {k : Nat} {x : ByteArray × ByteArray} (hx : l[k]? = some x) : wantF q (l.take (k + 1)) = wstep q (wantF q (l.take k)) x := by
  unfold wantF
  rw [List.take_add_one, hx]
  simp [List.foldl_append]
theorem wantF_all (q : List (ByteArray × Int)) {l : List (ByteArray × ByteArray)} {k : Nat} (h : l.length ≤ k) : wantF q (l.take k) = wantF q l := by rw [List.take_of_length_le h]
theorem want_fold (q : List (ByteArray × Int)) : ∀ (l : List (ByteArray × ByteArray)) (f g : Fn), (∀ s, isN q s = true → f s = none) → (∀ s, isN q s = false → f s = (g s).bind strV) →
    (∀ s, isN q s = true → l.foldl (wstep q) f s = none) ∧ ∀ s, isN q s = false → l.foldl (wstep q) f s = (puts mkS g l s).bind strV
  | [], f, g, h1, h2 => ⟨h1, h2⟩
  | x :: l, f, g, h1, h2 => by
    refine want_fold q l (wstep q f x) (upd g x.1 (mkS x.2)) (fun s hs => ?_) (fun s hs => ?_)
    · unfold wstep
      by_cases hx : isN q x.1 = true
      · rw [if_pos hx]
        exact h1 s hs
      · rw [if_neg hx]
        unfold upd
        rw [if_neg (fun e => hx (by rw [← e]; exact hs))]
        exact h1 s hs
    · unfold wstep
      by_cases hx : isN q x.1 = true
      · rw [if_pos hx]
        unfold upd
        rw [if_neg (fun e => by rw [e, hx] at hs; cases hs)]
        exact h2 s hs
      · rw [if_neg hx]
        unfold upd
        by_cases e : s = x.1
        · rw [if_pos e, if_pos e]; rfl
        · rw [if_neg e, if_neg e]; exact h2 s hs
theorem want_eq (l : List (ByteArray × ByteArray)) (q : List (ByteArray × Int)) : strF (memF l q) = wantF q l := by
  funext s
  obtain ⟨w1, w2⟩ := want_fold q l f0 f0 (fun _ _ => rfl) (fun _ _ => rfl)
  unfold strF memF
  rcases puts_spec mkI s q (puts mkS f0 l) with ⟨x, h1, h2, h3⟩ | ⟨h1, h2⟩
  · rw [h3]
    exact (w1 s ((isN_iff q s).2 ⟨x, h1, h2⟩)).symm
  · rw [h2]
    have hs : isN q s = false := by
      cases hb : isN q s with
      | false => rfl
      | true =>
        obtain ⟨x, h3, h4⟩ := (isN_iff q s).1 hb
        exact absurd h4 (h1 x h3)
    exact (w2 s hs).symm
theorem want_num {l : List (ByteArray × ByteArray)} {q : List (ByteArray × Int)} {s : ByteArray} (h : isN q s = true) : wantF q l s = none :=
  (want_fold q l f0 f0 (fun _ _ => rfl) (fun _ _ => rfl)).1 s h
theorem want_str {l : List (ByteArray × ByteArray)} {q : List (ByteArray × Int)} {x : ByteArray × ByteArray} (hx : x ∈ l) (h : isN q x.1 = false) : ∃ u, wantF q l x.1 = some (.string u) := by
  have := (want_fold q l f0 f0 (fun _ _ => rfl) (fun _ _ => rfl)).2 x.1 h
  rcases puts_spec mkS x.1 l f0 with ⟨y, _, _, h3⟩ | ⟨h1, _⟩
  · rw [h3] at this
    exact ⟨y.2, this⟩
  · exact absurd rfl (h1 x hx)
end Go.Proofs.Qxb6618663a
