/- zzMembers. -/
import Derived.Test.Qxb6618663aSmall
set_option linter.unusedVariables false
namespace Go.Proofs.Qxb6618663a
open Go.RowKit Go.Sort

abbrev Fn := ByteArray → Option Value
def puts {α : Type} (mk : α → Value) (f : Fn) (l : List (ByteArray × α)) : Fn := l.foldl (fun f x => upd f x.1 (mk x.2)) f
theorem puts_snoc {α : Type} (mk : α → Value) (f : Fn) {l : List (ByteArray × α)} {k : Nat} {x : ByteArray × α} (hx : l[k]? = some x) : puts mk f (l.take (k + 1)) = upd (puts mk f (l.take k)) x.1 (mk x.2) := by
  unfold puts
  rw [List.take_add_one, hx]
  simp [List.foldl_append]
theorem puts_all {α : Type} (mk : α → Value) (f : Fn) {l : List (ByteArray × α)} {k : Nat} (h : l.length ≤ k) : puts mk f (l.take k) = puts mk f l := by rw [List.take_of_length_le h]
def mkS (s : ByteArray) : Value := .iface 9 (.string s)
def mkI (z : Int) : Value := .iface 2 (.int .i64 z)
def memF (l : List (ByteArray × ByteArray)) (q : List (ByteArray × Int)) : Fn := puts mkI (puts mkS f0 l) q
theorem zip_get {α β : Type} {l : List α} {m : List β} {k : Nat} {x : α} {y : β} (h1 : l[k]? = some x) (h2 : m[k]? = some y) : (l.zip m)[k]? = some (x, y) := by
  rw [List.getElem?_zip_eq_some]
  exact ⟨h1, h2⟩
theorem run_mk0 {t e : TypeId} (ht : Try.prog.underlying t = some (.map 9 e)) (w : World) : (Instr.makeMap t none).run Try.prog w = .ok (.map (some w.heap.size)) (w.alloc (.map #[] 0)) := by
  simp [Instr.makeMap]

def MemPost (w : World) (f : Fn) (e : Ending) (w' : World) : Prop := ∃ b n c, e = .returned (.map (some b)) ∧ w.heap.size ≤ b ∧ n ≤ 2097152 ∧ Kp w w' ∧ MapV w' b n c f

set_option maxHeartbeats 4000000 in
theorem members_any (a1 a2 a3 a4 : Option Addr) (n1 c1 n2 c2 n3 c3 n4 c4 : Nat) (l1 l2 l3 : List ByteArray) (l4 : List Int) (w : World) (hn1 : n1 ≤ 1048576) (hn2 : n2 ≤ 1048576) (hn3 : n3 ≤ 1048576) (hn4 : n4 ≤ 1048576) (hl1 : l1.length = n1) (hl2 : l2.length = n2) (hl3 : l3.length = n3) (hl4 : l4.length = n4)
    (hR1 : RowO Value.string w a1 l1) (hR2 : RowO Value.string w a2 l2) (hR3 : RowO Value.string w a3 l3) (hR4 : RowO (Value.int .i64) w a4 l4) (hs1 : Sm l1) (hs3 : Sm l3) :
    Calls Try.prog 27 #[.slice a1 n1 c1, .slice a2 n2 c2, .slice a3 n3 c3, .slice a4 n4 c4] w fun e w' => MemPost w (memF (l1.zip l2) (l3.zip l4)) e w' := by
  have HL1 : Hid _ := hl1
  have HL2 : Hid _ := hl2
  have HL3 : Hid _ := hl3
  have HL4 : Hid _ := hl4
  have HS1 : Hid (Sm l1) := hs1
  have HS3 : Hid (Sm l3) := hs3
  have hmk := run_mk0 Try.underlying38
  clear hl1 hl2 hl3 hl4 hs1 hs3
  go_enter Try.func27, Try.ntmps27
  go_wp2
  clear hmk
  go_loopw [10] (fun i wr => ∃ k : Nat, k ≤ n1 ∧ k ≤ n2 ∧ i = .int .i64 k ∧ Kp w wr ∧ ∃ c, MapV wr w.heap.size k c (puts mkS f0 ((l1.zip l2).take k))) (fun i _ => n1 - (intOf i).toNat)
  case atStart => exact ⟨0, by omega, by omega, rfl, (Kp.refl _).alloc _, 0, MapV.made w⟩
  case round =>
    obtain ⟨k, hk1, hk2, rfl, hE, c, hM⟩ := hrel
    by_cases hlt : k < n1 ∧ k < n2
    · obtain ⟨h1, h2⟩ := hlt
      obtain ⟨b, off, x, rfl, hwb, q1, hx⟩ := (hR1.kp hE).get (i := k) (by rw [HL1.out]; exact h1)
      obtain ⟨b2, off2, y, rfl, hwb2, q2, hy⟩ := (hR2.kp hE).get (i := k) (by rw [HL2.out]; exact h2)
      have s0 := HS1.out x (List.mem_of_getElem? hx)
      obtain ⟨w1, hrun, ⟨c', hM1⟩, hT1⟩ := (hM.kp (Kp.refl wr).drew).run_store (t := 38) Try.underlying38 (by unfold maxLen; omega) (s := x) (by unfold maxLen; omega) (.iface 9 (.string y))
      have hE1 : Kp w w1 := (hE.trans (Kp.refl wr).drew).turned hT1 (Nat.le_refl _)
      have hM2 : MapV w1 w.heap.size (k + 1) c' (puts mkS f0 ((l1.zip l2).take (k + 1))) := by
        rw [puts_snoc mkS f0 (zip_get hx hy)]
        exact hM1
      have hi1 : (k : Int) < n1 := by omega
      have hi2 : (k : Int) < n2 := by omega
      clear hM1 hT1 hM hE hx hy
      go_wp2
      go_big_region
      go_wp2
      go_roundw
      case rel => exact ⟨k + 1, by omega, by omega, by go_num, hE1, c', hM2⟩
      case measure => simp [intOf]; omega
    · have hM1 : MapV wr w.heap.size k c (puts mkS f0 (l1.zip l2)) := by
        rw [puts_all mkS f0 (k := k) (by rw [List.length_zip, HL1.out, HL2.out]; omega)] at hM
        exact hM
      have hM2 : MapV wr w.heap.size 1048576 c (puts mkS f0 (l1.zip l2)) := hM1.mono (by omega)
      clear hM hM1
      by_cases h1 : k < n1
      · have h2 : ¬ (k : Int) < n2 := by omega
        have h1' : (k : Int) < n1 := by omega
        clear hlt
        go_wp2
        go_loopw [11] (fun i wr => ∃ j : Nat, j ≤ n3 ∧ j ≤ n4 ∧ i = .int .i64 j ∧ Kp w wr ∧ ∃ c, MapV wr w.heap.size (1048576 + j) c (puts mkI (puts mkS f0 (l1.zip l2)) ((l3.zip l4).take j))) (fun i _ => n3 - (intOf i).toNat)
        case atStart => exact ⟨0, by omega, by omega, rfl, hE, c, hM2⟩
        case round =>
          clear hM2 hE
          obtain ⟨j, hj1, hj2, rfl, hE, c, hM⟩ := hrel
          by_cases hlt2 : j < n3 ∧ j < n4
          · obtain ⟨h3, h4⟩ := hlt2
            obtain ⟨b, off, x, rfl, hwb, q1, hx⟩ := (hR3.kp hE).get (i := j) (by rw [HL3.out]; exact h3)
            obtain ⟨b2, off2, y, rfl, hwb2, q2, hy⟩ := (hR4.kp hE).get (i := j) (by rw [HL4.out]; exact h4)
            have s0 := HS3.out x (List.mem_of_getElem? hx)
            obtain ⟨w1, hrun, ⟨c', hM1⟩, hT1⟩ := (hM.kp (Kp.refl wr).drew).run_store (t := 38) Try.underlying38 (by unfold maxLen; omega) (s := x) (by unfold maxLen; omega) (.iface 2 (.int .i64 y))
            have hE1 : Kp w w1 := (hE.trans (Kp.refl wr).drew).turned hT1 (Nat.le_refl _)
            have hM2 : MapV w1 w.heap.size (1048576 + (j + 1)) c' (puts mkI (puts mkS f0 (l1.zip l2)) ((l3.zip l4).take (j + 1))) := by
              rw [puts_snoc mkI _ (zip_get hx hy)]
              exact hM1
            have hi1 : (j : Int) < n3 := by omega
            have hi2 : (j : Int) < n4 := by omega
            clear hM1 hT1 hM hE hx hy
            go_wp2
            go_big_region
            go_wp2
            go_roundw
            case rel => exact ⟨j + 1, by omega, by omega, by go_num, hE1, c', hM2⟩
            case measure => simp [intOf]; omega
          · have hM1 : MapV wr w.heap.size (1048576 + j) c (memF (l1.zip l2) (l3.zip l4)) := by
              rw [puts_all mkI _ (k := j) (by rw [List.length_zip, HL3.out, HL4.out]; omega)] at hM
              exact hM
            clear hM
            by_cases h3 : j < n3
            · have h4 : ¬ (j : Int) < n4 := by omega
              have h3' : (j : Int) < n3 := by omega
              clear hlt2
              go_wp2
              go_ret
              exact ⟨_, _, _, rfl, Nat.le_refl _, by omega, hE, hM1⟩
            · have h3' : ¬ (j : Int) < n3 := by omega
              clear hlt2
              go_wp2
              go_ret
              exact ⟨_, _, _, rfl, Nat.le_refl _, by omega, hE, hM1⟩
      · have h1' : ¬ (k : Int) < n1 := by omega
        clear hlt
        go_wp2
        go_loopw [11] (fun i wr => ∃ j : Nat, j ≤ n3 ∧ j ≤ n4 ∧ i = .int .i64 j ∧ Kp w wr ∧ ∃ c, MapV wr w.heap.size (1048576 + j) c (puts mkI (puts mkS f0 (l1.zip l2)) ((l3.zip l4).take j))) (fun i _ => n3 - (intOf i).toNat)
        case atStart => exact ⟨0, by omega, by omega, rfl, hE, c, hM2⟩
        case round =>
          clear hM2 hE
          obtain ⟨j, hj1, hj2, rfl, hE, c, hM⟩ := hrel
          by_cases hlt2 : j < n3 ∧ j < n4
          · obtain ⟨h3, h4⟩ := hlt2
            obtain ⟨b, off, x, rfl, hwb, q1, hx⟩ := (hR3.kp hE).get (i := j) (by rw [HL3.out]; exact h3)
            obtain ⟨b2, off2, y, rfl, hwb2, q2, hy⟩ := (hR4.kp hE).get (i := j) (by rw [HL4.out]; exact h4)
            have s0 := HS3.out x (List.mem_of_getElem? hx)
            obtain ⟨w1, hrun, ⟨c', hM1⟩, hT1⟩ := (hM.kp (Kp.refl wr).drew).run_store (t := 38) Try.underlying38 (by unfold maxLen; omega) (s := x) (by unfold maxLen; omega) (.iface 2 (.int .i64 y))
            have hE1 : Kp w w1 := (hE.trans (Kp.refl wr).drew).turned hT1 (Nat.le_refl _)
            have hM2 : MapV w1 w.heap.size (1048576 + (j + 1)) c' (puts mkI (puts mkS f0 (l1.zip l2)) ((l3.zip l4).take (j + 1))) := by
              rw [puts_snoc mkI _ (zip_get hx hy)]
              exact hM1
            have hi1 : (j : Int) < n3 := by omega
            have hi2 : (j : Int) < n4 := by omega
            clear hM1 hT1 hM hE hx hy
            go_wp2
            go_big_region
            go_wp2
            go_roundw
            case rel => exact ⟨j + 1, by omega, by omega, by go_num, hE1, c', hM2⟩
            case measure => simp [intOf]; omega
          · have hM1 : MapV wr w.heap.size (1048576 + j) c (memF (l1.zip l2) (l3.zip l4)) := by
              rw [puts_all mkI _ (k := j) (by rw [List.length_zip, HL3.out, HL4.out]; omega)] at hM
              exact hM
            clear hM
            by_cases h3 : j < n3
            · have h4 : ¬ (j : Int) < n4 := by omega
              have h3' : (j : Int) < n3 := by omega
              clear hlt2
              go_wp2
              go_ret
              exact ⟨_, _, _, rfl, Nat.le_refl _, by omega, hE, hM1⟩
            · have h3' : ¬ (j : Int) < n3 := by omega
              clear hlt2
              go_wp2
              go_ret
              exact ⟨_, _, _, rfl, Nat.le_refl _, by omega, hE, hM1⟩
end Go.Proofs.Qxb6618663a
