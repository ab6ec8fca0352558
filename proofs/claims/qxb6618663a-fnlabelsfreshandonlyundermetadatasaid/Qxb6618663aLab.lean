/- Object.Labels. -/
import Derived.Test.Qxb6618663aRng
set_option linter.unusedVariables false
namespace Go.Proofs.Qxb6618663a
open Go.RowKit Go.Sort Go.Maps

theorem zero9 (w : World) : (zeroValue 9).run Try.prog w = .ok (.string ByteArray.empty) w := by kernel_rfl
theorem zero4 (w : World) : (zeroValue 4).run Try.prog w = .ok (.bool false) w := by kernel_rfl
theorem zero20 (w : World) : (zeroValue 20).run Try.prog w = .ok .nilIface w := by kernel_rfl
theorem zero38 (w : World) : (zeroValue 38).run Try.prog w = .ok (.map none) w := by kernel_rfl
theorem ta9 (u : Value) (w : World) : (Instr.typeAssert (.iface 9 u) 20 9 true).run Try.prog w = .ok (.tuple #[u, .bool true]) w := by
  simp [Instr.typeAssert, run_underlying Try.underlying9, Result.andThen]
theorem ta2 (u : Value) (w : World) : (Instr.typeAssert (.iface 2 u) 20 9 true).run Try.prog w = .ok (.tuple #[.string ByteArray.empty, .bool false]) w := by
  simp [Instr.typeAssert, run_underlying Try.underlying9, Result.andThen]
  rfl
theorem ta38 (u : Value) (w : World) : (Instr.typeAssert (.iface 38 u) 20 38 true).run Try.prog w = .ok (.tuple #[u, .bool true]) w := by
  simp [Instr.typeAssert, run_underlying Try.underlying38, Result.andThen]
theorem tanil (w : World) : (Instr.typeAssert .nilIface 20 38 true).run Try.prog w = .ok (.tuple #[.map none, .bool false]) w := by
  simp [Instr.typeAssert, run_underlying Try.underlying38, Result.andThen]

theorem Lab.step_int {w W W' : World} {v : Value} {bl r n m m' : Nat} {f : Fn} {todo : ByteArray → Bool} {x : ByteArray} {z : Int} (h : Lab w W v m (glf f todo)) (hR : Rng W bl r n f todo m) (hg : W.grownBy W' (some r)) (hf : f x = some (.iface 2 (.int .i64 z))) (hm : m' < m) : Lab w W' v m' (glf f (strike todo x)) := by
  rw [glf_int hf]
  rcases h with h | ⟨b, n', c, e, hb, hn, hM, hs⟩
  · exact Or.inl h
  · refine Or.inr ⟨b, n', c, e, hb, by omega, hM.block (hg.block b hM.lt ?_), hs⟩
    have := hR.ne_map hM
    intro e
    injection e with e
    exact this e
theorem Lab.step_str {w W' : World} {m m' b n' c : Nat} {f : Fn} {todo : ByteArray → Bool} {x u : ByteArray} (hM : MapV W' b (n' + 1) c (upd (glf f todo) x (.string u))) (hb : w.heap.size ≤ b) (hn : n' + m ≤ 2097152) (hf : f x = some (.iface 9 (.string u))) (hm : m' < m) : Lab w W' (.map (some b)) m' (glf f (strike todo x)) := by
  rw [glf_str hf]
  exact Or.inr ⟨b, n' + 1, c, rfl, hb, by omega, hM, x, by simp [upd]⟩
theorem Lab.zero {w W : World} {v : Value} {m : Nat} {g : Fn} (h : Lab w W v m g) : Lab w W v 0 g := by
  rcases h with h | ⟨b, n', c, e, hb, hn, hM, hs⟩
  · exact Or.inl h
  · exact Or.inr ⟨b, n', c, e, hb, by omega, hM, hs⟩
set_option maxHeartbeats 4000000 in
theorem labels_any (b0 : Nat) (f : Fn) (w : World) (hO : ObjL w b0 f) (hG : Good f) : Calls Try.prog 23 #[.agg #[.map (some b0)]] w fun e w' => LabPost w (strF f) e w' := by
  obtain ⟨bm, bl, n0, c0, nm, cm, n, c, hM0, hMm, hn, hMl⟩ := hO
  have hka : Kp w (w.alloc (.cells #[.map (some b0)] 40)) := (Kp.refl w).alloc _
  have hlk1 := (hM0.kp hka).run_look (t := 38) Try.underlying38 (zero20 _) metaS_le
  have hlk2 := (hMm.kp hka).run_look (t := 38) Try.underlying38 (zero20 _) labS_le
  rw [show (upd f0 metaS (.iface 38 (.map (some bm))) metaS).getD .nilIface = .iface 38 (.map (some bm)) by simp [upd]] at hlk1
  rw [show (upd f0 labS (.iface 38 (.map (some bl))) labS).getD .nilIface = .iface 38 (.map (some bl)) by simp [upd]] at hlk2
  have hMl1 := hMl.kp hka
  have h9 := ta9
  have h2 := ta2
  have h38 := ta38
  have hbl := hMl.lt
  unfold metaS at hlk1
  unfold labS at hlk2
  clear hM0 hMm hMl
  go_enter Try.func23, Try.ntmps23
  go_wp2_with (at_range; refine wpList_range_V _ rfl (.tmp 25) 38 rfl 20 Try.underlying38 bl n c f rfl hMl1 ?_; intro w0 hrg0 hg0 hs0)
  go_frame
  have hsa : (w.alloc (.cells #[.map (some b0)] 40)).heap.size = w.heap.size + 1 := by simp
  rw [hsa] at hrg0 hs0
  rw [hsa]
  have hE0 : Kp w w0 := hka.grown hg0 (fun k hk => by cases hk)
  have hcn := hMl1.cnt_le
  clear hlk1 hlk2 hMl1 h38 hg0 hsa hka
  have hst : LSt w w0 bl (w.heap.size + 1) n f (.map none) := ⟨_, c, hrg0, hE0, by omega, Or.inl ⟨rfl, fun s => by rw [glf_start]; rfl⟩⟩
  clear hrg0 hE0 hs0 hcn
  have hmk := run_mk0 Try.underlying44
  have hnil := fun w r => run_eql_map_nil (P := Try.prog) w 44 9 9 r Try.underlying44
  go_loopw [7] (fun v7 wr => LSt w wr bl (w.heap.size + 1) n f v7) (fun _ wr => wr.rangeLeft bl (w.heap.size + 1))
  case atStart => exact hst
  case round =>
    clear hst
    obtain ⟨todo, cnt, hrg, hE, hcnt, hL⟩ := hrel
    have hrl := hrg.lt
    go_wp2_with (at_next; refine wpList_next_V _ rfl (.tmp 26) rfl bl (w.heap.size + 1) n f todo cnt rfl hrg ?_ ?_)
    · intro hd
      rw [glf_end hd] at hL
      have hL0 := hL.zero
      clear hL
      go_wp2
      go_ret
      exact ⟨hE, _, rfl, hL0⟩
    · intro x v w1 cnt1 hx htd hfx hrg1 hlt hg1 hs1 hen
      have hE1 : Kp w w1 := hE.grown hg1 (fun k hk => by injection hk with hk; omega)
      rcases hG x v hfx with ⟨u, rfl⟩ | ⟨z, rfl⟩
      · rcases hL with ⟨rfl, hno⟩ | ⟨b, n', c', rfl, hb, hn', hM, hsome⟩
        · obtain ⟨w2, hr2, ⟨c2, hM2⟩, hT2⟩ := (MapV.made w1).run_store (t := 44) Try.underlying44 (by unfold maxLen; omega) hx (.string u)
          have hgf : glf f todo = f0 := funext hno
          rw [← hgf] at hM2
          have hL1 := Lab.step_str (m := cnt) hM2 hE1.size (by omega) hfx hlt
          have hE2 : Kp w w2 := (hE1.alloc _).turned hT2 hE1.size
          have hrg2 := (hrg1.alloc (.map #[] 0)).kept hT2.grown (by intro e; injection e with e; have := hE1.size; omega) (by intro e; injection e with e; have := hrg1.lt; omega)
          have hrl : wr.rangeLeft bl (w.heap.size + 1) = cnt := hrg.left_eq
          clear hG hM2 hT2 hno hgf hrg1 hE hE1 hrg hs1 hg1
          go_wp2
          go_roundw
          case rel => exact ⟨_, cnt1, hrg2, hE2, by omega, hL1⟩
          case measure => rw [hrg2.left_eq, hrl]; omega
        · have hbr := hrg.ne_map hM
          have hM1 : MapV w1 b n' c' (glf f todo) := hM.block (hg1.block b hM.lt (by intro e; injection e with e; exact hbr e))
          obtain ⟨w2, hr2, ⟨c2, hM2⟩, hT2⟩ := hM1.run_store (t := 44) Try.underlying44 (by unfold maxLen; omega) hx (.string u)
          have hL1 := Lab.step_str (m := cnt) hM2 hb hn' hfx hlt
          have hE2 : Kp w w2 := hE1.turned hT2 hb
          have hrg2 := hrg1.kept hT2.grown (by intro e; injection e with e; omega) (by intro e; injection e with e; omega)
          have hrl : wr.rangeLeft bl (w.heap.size + 1) = cnt := hrg.left_eq
          clear hG hM2 hT2 hM1 hM hsome hrg1 hE hE1 hrg hs1 hg1
          go_wp2
          go_roundw
          case rel => exact ⟨_, cnt1, hrg2, hE2, by omega, hL1⟩
          case measure => rw [hrg2.left_eq, hrl]; omega
      · have hL1 := hL.step_int hrg hg1 hfx hlt
        clear hL hE hG
        have hrl : wr.rangeLeft bl (w.heap.size + 1) = cnt := hrg.left_eq
        go_wp2
        go_roundw
        case rel => exact ⟨_, cnt1, hrg1, hE1, by omega, hL1⟩
        case measure => rw [hrg1.left_eq, hrl]; omega

set_option maxHeartbeats 4000000 in
theorem labels_none (b0 : Nat) (w : World) (hO : ObjM w b0) : Calls Try.prog 23 #[.agg #[.map (some b0)]] w fun e w' => e = .returned (.map none) ∧ Kp w w' := by
  obtain ⟨bl, n0, c0, hM0⟩ := hO
  have hka : Kp w (w.alloc (.cells #[.map (some b0)] 40)) := (Kp.refl w).alloc _
  have hlk1 := (hM0.kp hka).run_look (t := 38) Try.underlying38 (zero20 _) metaS_le
  have hne : metaS ≠ labS := by
    intro e
    have := congrArg ByteArray.size e
    revert this
    decide
  rw [show (upd f0 labS (.iface 38 (.map (some bl))) metaS).getD .nilIface = .nilIface by simp [upd, hne, f0]] at hlk1
  have hlk2 := Maps.look_nil (P := Try.prog) (w := w.alloc (.cells #[.map (some b0)] 40)) (t := 38) false law Try.underlying38 (zero20 _) (key_of labS_le)
  have hnl := tanil
  have hrg := run_range_nilMap (P := Try.prog) (w.alloc (.cells #[.map (some b0)] 40)) 38 9 20 Try.underlying38
  have hnx : ∀ ty, (Instr.next (.pointer (some ⟨(w.alloc (.cells #[.map (some b0)] 40)).heap.size, 0, none⟩)) false ty).run Try.prog ((w.alloc (.cells #[.map (some b0)] 40)).alloc (.mapIter none 0 #[] 0)) = _ := fun ty => run_next_nilMap _ ty 0 0 #[]
  have hsa : (w.alloc (.cells #[.map (some b0)] 40)).heap.size = w.heap.size + 1 := by simp
  have hnx2 := hnx
  rw [hsa] at hnx2
  clear hsa
  unfold metaS at hlk1
  unfold labS at hlk2
  clear hM0 hne
  go_enter Try.func23, Try.ntmps23
  go_wp2
  clear hlk1 hlk2 hnl hrg
  have hK : Kp w ((w.alloc (.cells #[.map (some b0)] 40)).alloc (.mapIter none 0 #[] 0)) := hka.alloc _
  clear hka
  generalize ((w.alloc (.cells #[.map (some b0)] 40)).alloc (.mapIter none 0 #[] 0)) = V at *
  go_loopw [7] (fun v7 wr => v7 = .map none ∧ V = wr) (fun _ _ => 0)
  case atStart => exact ⟨rfl, rfl⟩
  case round =>
    obtain ⟨rfl, rfl⟩ := hrel
    go_wp2
    go_ret
    exact ⟨rfl, hK⟩
end Go.Proofs.Qxb6618663a
