/- endsInHole, end, sameBytes. -/
import Derived.Test.Qxb6618064aDoorCopy
set_option linter.unusedVariables false
namespace Go.Proofs.Qxb6618064aDoor
open Go.RowKit Go.Sort

def endOf (r : A2) : Int := wrap64 (r.1 + r.2)
def hole (size : Int) (l : List A2) : Bool := match l.getLast? with
  | none => decide (0 < size)
  | some r => decide (endOf r < size)
theorem hole_nil (size : Int) : hole size [] = decide (0 < size) := rfl
theorem hole_last {size : Int} {l : List A2} {k : Nat} {r : A2} (hl : l.length = k + 1) (hr : l[k]? = some r) : hole size l = decide (endOf r < size) := by
  unfold hole
  rw [List.getLast?_eq_getElem?, hl, Nat.add_sub_cancel, hr]
theorem end_any (r : A2) (w : World) : Calls Tryd.prog 24 #[.agg #[.int .i64 r.1, .int .i64 r.2]] w fun e w' => e = .returned (.int .i64 (endOf r)) ∧ Ext w w' := by
  go_enter Tryd.func24, Tryd.ntmps24
  go_wp2
  go_ret
  refine ⟨rfl, ?_⟩
  repeat (first | exact Ext.refl _ | apply Ext.alloc)
set_option maxHeartbeats 1000000 in
theorem ends_any (size : Int) (ao : Option Addr) (n cap : Nat) (l : List A2) (w : World) (hn : n ≤ 200000) (hl : l.length = n) (hR : RowO w ao l) :
    Calls Tryd.prog 13 #[.int .i64 size, .slice ao n cap] w fun e w' => e = .returned (.bool (hole size l)) ∧ Ext w w' := by
  cases n with
  | zero =>
    obtain rfl : l = [] := List.eq_nil_of_length_eq_zero hl
    go_enter Tryd.func13, Tryd.ntmps13
    go_wp2
    go_ret
    exact ⟨rfl, Ext.refl _⟩
  | succ k =>
    obtain ⟨b, off, r, rfl, hRr, hx⟩ := hR.get (i := k) (by omega)
    obtain ⟨a0, a1⟩ := hRr.2 k r hx
    have hwb := hRr.1
    have HH : Hid _ := hole_last (size := size) hl hx
    clear hx hRr hl hR
    generalize hm : k + 1 = m at *
    have hkm : (m : Int) - 1 = k := by omega
    have hmz : ((m : Int) == 0) = false := by simp; omega
    have hkl : (k : Int) < (m : Int) := by omega
    have hkl2 : k < m := by omega
    clear hm
    go_enter Tryd.func13, Tryd.ntmps13
    go_wp2
    go_big_region
    go_wp2
    go_ret
    refine ⟨?_, (Ext.refl _).drew⟩
    rw [HH.out]
    rfl
end Go.Proofs.Qxb6618064aDoor
