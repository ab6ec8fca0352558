/- attrBytes, held, equalAttrs. -/
import Derived.Test.Qxb6618064aCopy
import Derived.Laws.StructEq
import Derived.ChangeKeysEq
set_option linter.unusedVariables false
namespace Go.Proofs.Qxb6618064a
open Go.RowKit Go.Sort

def sumW (l : List A2) : Nat := Plain.wt wt1 l
theorem sumW_take {l : List A2} {k : Nat} {x : A2} (hx : l[k]? = some x) : sumW (l.take (k + 1)) = sumW (l.take k) + wt1 x := by
  unfold sumW
  rw [List.take_add_one, hx]
  exact Plain.wt_snoc wt1 _ x
theorem sumW_le {l : List A2} (k : Nat) : sumW (l.take k) ≤ sumW l := by
  have := Plain.wt_append wt1 (l.take k) (l.drop k)
  rw [List.take_append_drop] at this
  unfold sumW
  omega
theorem wt1_le {l : List A2} {k : Nat} {x : A2} (hx : l[k]? = some x) : wt1 x ≤ sumW l := by
  have h1 := sumW_take hx
  have h2 := sumW_le (l := l) (k + 1)
  omega

set_option maxHeartbeats 1000000 in
theorem attrBytes_any (ao : Option Addr) (n cap : Nat) (l : List A2) (u : Nat) (w : World) (hn : n ≤ 65536) (hl : l.length = n) (hR : RowO w ao l) (hu : u ≤ 1048577) (hs : ∀ x ∈ l, x.1.size ≤ maxLen ∧ x.2.size ≤ maxLen) :
    Calls Try.prog 5 #[.slice ao n cap, .int .i64 u] w
      fun e w' => w' = w ∧ ∃ r : Nat, e = .returned (.int .i64 r) ∧ r ≤ 1048577 ∧ (r ≤ 1048576 → r = u + sumW l) := by
  have HL : Hid _ := hl
  have HS : Hid _ := hs
  clear hl hs
  go_enter Try.func5, Try.ntmps5
  go_wp2
  go_loopw [5, 1] (fun i v wr => ∃ k r : Nat, k ≤ n ∧ i = .int .i64 k ∧ v = .int .i64 r ∧ r ≤ 1048577 ∧ wr = w ∧ Hid (r ≤ 1048576 → r = u + sumW (l.take k))) (fun i _ _ => n - (intOf i).toNat)
  case atStart => exact ⟨0, u, by omega, rfl, rfl, hu, rfl, fun _ => by simp [sumW, Plain.wt]⟩
  case round =>
    obtain ⟨k, r, hk, rfl, rfl, hr, rfl, hq⟩ := hrel
    by_cases hlt : k < n
    · obtain ⟨b, off, x, rfl, hRr, hx⟩ := hR.get (i := k) (by rw [HL.out]; exact hlt)
      obtain ⟨a0, a1⟩ := hRr.2 k x hx
      have hwb := hRr.1
      obtain ⟨s0, s1⟩ := HS.out x (List.mem_of_getElem? hx)
      unfold maxLen at s0 s1
      have HX : Hid _ := hx
      clear hx hRr
      by_cases h1 : 1048576 < r
      · go_wp2
        go_ret
        exact ⟨rfl, r, rfl, hr, fun h => by omega⟩
      · by_cases h2 : 1048576 - (r : Int) < 32
        · go_wp2
          go_ret
          exact ⟨rfl, 1048577, rfl, by omega, fun h => by omega⟩
        · by_cases h3 : 1048576 - (r : Int) - 32 < x.1.size
          · go_wp2
            go_ret
            exact ⟨rfl, 1048577, rfl, by omega, fun h => by omega⟩
          · by_cases h4 : 1048576 - (r : Int) - 32 - x.1.size < x.2.size
            · go_wp2
              go_ret
              exact ⟨rfl, 1048577, rfl, by omega, fun h => by omega⟩
            · go_wp2
              go_roundw
              case rel =>
                refine ⟨k + 1, r + wt1 x, by omega, by go_num, ?_, by unfold wt1; omega, ?_, fun _ => ?_⟩
                · congr 1
                  unfold wt1
                  omega
                · trivial
                · rw [sumW_take HX.out, hq.out (by omega)]
                  omega
              case measure => simp [intOf]; omega
    · go_wp2
      go_ret
      refine ⟨rfl, r, rfl, hr, fun h => ?_⟩
      have := hq.out h
      rw [show k = l.length by rw [HL.out]; omega, List.take_length] at this
      exact this
end Go.Proofs.Qxb6618064a
