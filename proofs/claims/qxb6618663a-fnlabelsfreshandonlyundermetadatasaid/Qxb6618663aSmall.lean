/- minInt, spendStrings, zzBytes. -/
import Derived.Test.Qxb6618663aBase
set_option linter.unusedVariables false
namespace Go.Proofs.Qxb6618663a
open Go.RowKit Go.Sort

set_option maxHeartbeats 400000 in
theorem minInt_any (n m : Nat) (w : World) (hn : n ≤ 1048576) (hm : m ≤ 1048576) :
    Calls Try.prog 22 #[.int .i64 n, .int .i64 m] w fun e w' => e = .returned (.int .i64 (min n m : Nat)) ∧ w' = w := by
  by_cases h : n < m
  · have h2 : (n : Int) < m := by omega
    go_enter Try.func22, Try.ntmps22
    go_wp2
    go_ret
    refine ⟨?_, rfl⟩
    rw [Nat.min_eq_left (by omega)]; rfl
  · have h2 : ¬ (n : Int) < m := by omega
    go_enter Try.func22, Try.ntmps22
    go_wp2
    go_ret
    refine ⟨?_, rfl⟩
    rw [Nat.min_eq_right (by omega)]; rfl

def SpPost (w : World) (e : Ending) (w' : World) : Prop := w' = w ∧ ∃ r : Int, e = .returned (.int .i64 r) ∧ -1 ≤ r ∧ r ≤ 1048576
set_option maxHeartbeats 1000000 in
theorem spend_any (ao : Option Addr) (n cap : Nat) (l : List ByteArray) (u : Int) (w : World) (hn : n ≤ 1048576) (hl : l.length = n) (hR : RowO Value.string w ao l) (hu0 : -1 ≤ u) (hu : u ≤ 1048576) (hs : ∀ x ∈ l, x.size ≤ 1048576) :
    Calls Try.prog 8 #[.slice ao n cap, .int .i64 u] w fun e w' => SpPost w e w' := by
  have HL : Hid _ := hl
  have HS : Hid _ := hs
  clear hl hs
  by_cases h0 : u < 0
  · go_enter Try.func8, Try.ntmps8
    go_wp2
    go_ret
    exact ⟨rfl, -1, rfl, by omega, by omega⟩
  · go_enter Try.func8, Try.ntmps8
    go_wp2
    go_loopw [5, 1] (fun i v wr => ∃ (k : Nat) (r : Int), k ≤ n ∧ i = .int .i64 k ∧ v = .int .i64 r ∧ 0 ≤ r ∧ r ≤ 1048576 ∧ w = wr) (fun i _ _ => n - (intOf i).toNat)
    case atStart => exact ⟨0, u, by omega, rfl, rfl, by omega, by omega, rfl⟩
    case round =>
      obtain ⟨k, r, hk, rfl, rfl, hr0, hr, rfl⟩ := hrel
      by_cases hlt : k < n
      · obtain ⟨b, off, x, rfl, hwb, a0, hx⟩ := hR.get (i := k) (by rw [HL.out]; exact hlt)
        have s0 := HS.out x (List.mem_of_getElem? hx)
        clear hx
        by_cases h1 : r - (16 + (x.size : Int)) < 0
        · go_wp2
          go_ret
          exact ⟨rfl, -1, rfl, by omega, by omega⟩
        · go_wp2
          go_roundw
          case rel => exact ⟨k + 1, r - (16 + (x.size : Int)), by omega, by go_num, by first | rfl | go_num, by omega, by omega, by trivial⟩
          case measure => simp [intOf]; omega
      · go_wp2
        go_ret
        exact ⟨rfl, r, rfl, by omega, by omega⟩

def ZZPost (w : World) (P : Prop) (e : Ending) (w' : World) : Prop := w' = w ∧ ∃ r : Bool, e = .returned (.bool r) ∧ (r = true → P)
def Sm (l : List ByteArray) : Prop := ∀ x ∈ l, x.size ≤ 1048576
theorem Sm.nil (l : List ByteArray) : Sm (l.take 0) := fun x hx => by simp at hx
theorem Sm.snoc {l : List ByteArray} {k : Nat} {x : ByteArray} (h : Sm (l.take k)) (hx : l[k]? = some x) (hs : x.size ≤ 1048576) : Sm (l.take (k + 1)) := by
  intro y hy
  rw [List.take_add_one, hx] at hy
  rcases List.mem_append.1 hy with h1 | h1
  · exact h y h1
  · have : y = x := by simpa using h1
    rw [this]; exact hs
theorem Sm.all {l : List ByteArray} {k n : Nat} (h : Sm (l.take k)) (hl : l.length = n) (hk : ¬ k < n) : Sm l := by
  rw [List.take_of_length_le (by omega)] at h
  exact h

set_option maxHeartbeats 2000000 in
theorem zz19_any (ao bo : Option Addr) (n cap m cap' : Nat) (l l2 : List ByteArray) (t : Bool) (w : World) (hn : n ≤ maxLen) (hm : m ≤ maxLen) (hl : l.length = n) (hl2 : l2.length = m) (hR : RowO Value.string w ao l) (hR2 : RowO Value.string w bo l2) (hs : ∀ x ∈ l, x.size ≤ maxLen) (hs2 : ∀ x ∈ l2, x.size ≤ maxLen) :
    Calls Try.prog 19 #[.slice ao n cap, .slice bo m cap', .bool t] w fun e w' => ZZPost w (n ≤ 1048576 ∧ m ≤ 1048576 ∧ Sm l ∧ Sm l2) e w' := by
  unfold maxLen at hn hm hs hs2
  have HL : Hid _ := hl
  have HS : Hid _ := hs
  have HL2 : Hid _ := hl2
  have HS2 : Hid _ := hs2
  clear hl hs hl2 hs2
  by_cases hn1 : 1048576 < n
  · go_enter Try.func19, Try.ntmps19
    go_wp2
    go_ret
    exact ⟨rfl, false, rfl, fun h => by cases h⟩
  · go_enter Try.func19, Try.ntmps19
    go_wp2
    go_loopw [8, 7] (fun i v wr => ∃ k r : Nat, k ≤ n ∧ i = .int .i64 k ∧ v = .int .i64 r ∧ r ≤ 1048576 ∧ w = wr ∧ Hid (Sm (l.take k))) (fun i _ _ => n - (intOf i).toNat)
    case atStart => exact ⟨0, n, by omega, rfl, rfl, by omega, rfl, Sm.nil l⟩
    case round =>
      obtain ⟨k, r, hk, rfl, rfl, hr, rfl, hq⟩ := hrel
      by_cases hlt : k < n
      · obtain ⟨b, off, x, rfl, hwb, a0, hx⟩ := hR.get (i := k) (by rw [HL.out]; exact hlt)
        have s0 := HS.out x (List.mem_of_getElem? hx)
        have HX : Hid _ := hx
        clear hx
        by_cases h1 : 1048576 < x.size
        · go_wp2
          go_ret
          exact ⟨rfl, false, rfl, fun h => by cases h⟩
        · by_cases h2 : 1048576 < r + x.size
          · go_wp2
            go_ret
            exact ⟨rfl, false, rfl, fun h => by cases h⟩
          · go_wp2
            go_roundw
            case rel => exact ⟨k + 1, r + x.size, by omega, by go_num, by first | rfl | go_num, by omega, by trivial, hq.out.snoc HX.out (by omega)⟩
            case measure => simp [intOf]; omega
      · have hsm : Hid (Sm l) := hq.out.all HL.out hlt
        clear hq
        by_cases hm1 : 1048576 < m
        · go_wp2
          go_ret
          exact ⟨rfl, false, rfl, fun h => by cases h⟩
        · by_cases hm2 : 1048576 < r + m
          · go_wp2
            go_ret
            exact ⟨rfl, false, rfl, fun h => by cases h⟩
          · go_wp2
            go_loopw [9, 7] (fun i v wr => ∃ k r : Nat, k ≤ m ∧ i = .int .i64 k ∧ v = .int .i64 r ∧ r ≤ 1048576 ∧ w = wr ∧ Hid (Sm (l2.take k))) (fun i _ _ => m - (intOf i).toNat)
            case atStart => exact ⟨0, r + m, by omega, rfl, by first | rfl | go_num, by omega, rfl, Sm.nil l2⟩
            case round =>
              obtain ⟨k2, r2, hk2, rfl, rfl, hr2, rfl, hq2⟩ := hrel
              by_cases hlt2 : k2 < m
              · obtain ⟨b2, off2, x2, rfl, hwb2, a2, hx2⟩ := hR2.get (i := k2) (by rw [HL2.out]; exact hlt2)
                have s2 := HS2.out x2 (List.mem_of_getElem? hx2)
                have HX2 : Hid _ := hx2
                clear hx2
                by_cases h1 : 1048576 < x2.size
                · go_wp2
                  go_ret
                  exact ⟨rfl, false, rfl, fun h => by cases h⟩
                · by_cases h2 : 1048576 < r2 + x2.size
                  · go_wp2
                    go_ret
                    exact ⟨rfl, false, rfl, fun h => by cases h⟩
                  · go_wp2
                    go_roundw
                    case rel => exact ⟨k2 + 1, r2 + x2.size, by omega, by go_num, by first | rfl | go_num, by omega, by trivial, hq2.out.snoc HX2.out (by omega)⟩
                    case measure => simp [intOf]; omega
              · have hsm2 : Hid (Sm l2) := hq2.out.all HL2.out hlt2
                go_wp2
                go_ret
                exact ⟨rfl, true, rfl, fun _ => ⟨by omega, by omega, hsm.out, hsm2.out⟩⟩
end Go.Proofs.Qxb6618663a
