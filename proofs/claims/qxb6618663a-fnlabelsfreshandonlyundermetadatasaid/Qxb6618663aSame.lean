/- sameLabels. -/
import Derived.Test.Qxb6618663aCopy
set_option linter.unusedVariables false
namespace Go.Proofs.Qxb6618663a
open Go.RowKit Go.Sort Go.Maps

set_option maxHeartbeats 4000000 in
theorem same_any (gb wb ng nw c : Nat) (g : Fn) (ao : Option Addr) (n1 cap n : Nat) (l1 : List ByteArray) (W : World) (hn1 : n1 ≤ 1048576) (hn : n ≤ n1) (hl : l1.length = n1) (hR : RowO Value.string W ao l1) (hs : Sm l1) (hG : MapV W gb ng c g) (hW : MapV W wb nw c g)
    (hg : ∀ i x, i < n → l1[i]? = some x → ∃ u, g x = some (.string u)) :
    Calls Try.prog 24 #[.map (some gb), .map (some wb), .slice ao n1 cap, .int .i64 n] W fun e w' => e = .returned (.bool true) ∧ w' = W := by
  have HL : Hid _ := hl
  have HS : Hid (Sm l1) := hs
  have HG : Hid _ := hg
  clear hl hs hg
  have hnil := fun w r => run_eql_map_nil (P := Try.prog) w 44 9 9 r Try.underlying44
  have hlen := fun ty => hG.run_len (t := 44) Try.underlying44 ty
  have hlen2 := fun ty => hW.run_len (t := 44) Try.underlying44 ty
  go_enter Try.func24, Try.ntmps24
  go_wp2
  clear hnil hlen hlen2
  go_loopw [9] (fun i wr => ∃ k : Nat, k ≤ n ∧ i = .int .i64 k ∧ W = wr) (fun i _ => n - (intOf i).toNat)
  case atStart => exact ⟨0, by omega, rfl, rfl⟩
  case round =>
    obtain ⟨k, hk, rfl, rfl⟩ := hrel
    by_cases hlt : k < n
    · obtain ⟨b, off, x, rfl, hwb, z1, hx⟩ := hR.get (i := k) (by rw [HL.out]; omega)
      have s0 := HS.out x (List.mem_of_getElem? hx)
      have hlg := hG.run_look_ok (t := 44) Try.underlying44 (zero9 _) (s := x) (by unfold maxLen; omega)
      have hlw := hW.run_look (t := 44) Try.underlying44 (zero9 _) (s := x) (by unfold maxLen; omega)
      obtain ⟨u, hu⟩ := HG.out k x hlt hx
      rw [hu] at hlg hlw
      simp only [Option.getD_some, Option.isSome_some] at hlg hlw
      clear hx hu
      go_wp2
      go_roundw
      case rel => exact ⟨k + 1, by omega, by go_num, by trivial⟩
      case measure => simp [intOf]; omega
    · go_wp2
      go_ret
      exact ⟨rfl, rfl⟩
theorem MapV.setCell {W : World} {a : Addr} {cs : Array Value} {T : TypeId} {fr : Nat × Nat} {b n c : Nat} {f : Fn} (h : MapV W b n c f) (hc : W.heap[a.block]? = some (.cells cs T fr)) (u : Value) : MapV (W.setCell a u) b n c f := by
  refine h.block (Below.heap_setCell _ _ _ _ ?_)
  intro e
  obtain ⟨D, ⟨es, clock, hh, _⟩, _⟩ := h
  rw [e, hc] at hh
  cases hh
theorem ObjL.setCell {W : World} {a : Addr} {cs : Array Value} {T : TypeId} {fr : Nat × Nat} {b : Nat} {f : Fn} (h : ObjL W b f) (hc : W.heap[a.block]? = some (.cells cs T fr)) (u : Value) : ObjL (W.setCell a u) b f := by
  obtain ⟨bm, bl, n0, c0, nm, cm, n, c, h1, h2, h3, h4⟩ := h
  exact ⟨bm, bl, n0, c0, nm, cm, n, c, h1.setCell hc u, h2.setCell hc u, h3, h4.setCell hc u⟩
theorem ObjM.setCell {W : World} {a : Addr} {cs : Array Value} {T : TypeId} {fr : Nat × Nat} {b : Nat} (h : ObjM W b) (hc : W.heap[a.block]? = some (.cells cs T fr)) (u : Value) : ObjM (W.setCell a u) b := by
  obtain ⟨bl, n0, c0, h1⟩ := h
  exact ⟨bl, n0, c0, h1.setCell hc u⟩
theorem wpList_del_V (w : World) {ops : Array Oper} {rest : List Oper} {o : Oper} {a : Act} {Q : Exit → Act → World → Prop} (hg : o.guard = none) (m x : Operand) (t : TypeId) (hop : o.op = Op.call { callee := Callee.builtin Builtin.delete, args := #[m, x], argTypes := #[t, 9] })
    (e : TypeId) (ht : Try.prog.underlying t = some (.map 9 e)) (b n c : Nat) (f : Fn) (hm : a.eval m = .map (some b)) (hown : MapV w b n c f) (s : ByteArray) (hx : a.eval x = .string s) (hs : s.size ≤ maxLen)
    (hK : ∀ w', (∃ c', MapV w' b n c' (del f s)) → w.mapTurned w' b → wpList Try.prog ops Q rest (a.put o.dst (.tuple #[])) w') : wpList Try.prog ops Q (o :: rest) a w := by
  obtain ⟨D, hD, hc, hf⟩ := hown
  exact wpList_delete_own w hg m x t 9 hop e law ht RV b n D hm hD (.string s) (keyL s) hx (key_of hs) fun w' h1 h2 => hK w' (MapV.strike hc hD hf h1) h2
def q0 : List (ByteArray × Int) := ([] : List ByteArray).zip ([] : List Int)
theorem isN_q0 (s : ByteArray) : isN q0 s = false := rfl
theorem wstep_q0 (f : Fn) (x : ByteArray × ByteArray) : wstep q0 f x = upd f x.1 (.string x.2) := by
  unfold wstep
  rw [if_neg (by rw [isN_q0]; simp)]
end Go.Proofs.Qxb6618663a
