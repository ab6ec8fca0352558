/-
  No cell of these rows narrows 'for every input' (looked for: loops, veiled, ifaces, maps, wideKeys, modest, calm, conditions, laid).
  DERIVED. THE GIVEN ROWS OF THIS SEAT. 3 by the template 'for every input the law returns true; each argument reads behind the call as it read before'; 0 by the template 'total and deterministic' (their statements: Qxb6618031aTotals.lean).
  GIVEN WITH THE SEED: the statements are not yours to turn. If you find one false, say at which input.
  Laid BY PROGRAM, IN A SANDBOX (cutbox-rows.mjs): the forced cells as the released guide's own fill.sh prints them over the translation fea2198322ccb9b9… (all of the seat's roots in one cut). By AI agents, Wed Nov 11 2026. No macro, syntax, notation, axiom, sorry.
-/
import Derived.Test.Qxb6618031aChecked
import GoSem.Claim
import GoSem.ClaimJoined
import GoSem.ClaimMapViews
import Derived.JoinedTies
import Derived.KernelRfl
namespace Go.Proofs.Qxb6618031a
/- THE CELL 'sum', in the pinned program and in every row, IS THE sha256 OF THE DUMP (.gsa) THAT Qxb6618031aProg.lean LOADS. Nothing in Lean hashes anything: it is a label: what it is worth is what the hold of that sum in a sandbox is worth. -/
noncomputable def Try.pinned : Pinned := { name := "qxb6618031a", sum := "fea2198322ccb9b977f090a94e34e626c62ab34a8f9969d82bab6a82c4e117d6", checked := Try.checked }
namespace Rows
def none {H : Type} : Left H := { results := [], args := [] }

/-- 'zzlaws_ring_b1.FnSettledPlaceAndPast': WHATEVER THE INPUT: true; the input reads as it did. -/
def fnSettledPlaceAndPastSpec : ChangeSpec := { name := "fnSettledPlaceAndPast", fn := fun _ => fun
  | [d1, d2, d3] => { results := [.lit (.bool true)], args := [d1, d2, d3] }
  | _ => none }
def fnSettledPlaceAndPastRow : OpenClaim := { program := "qxb6618031a", sum := "fea2198322ccb9b977f090a94e34e626c62ab34a8f9969d82bab6a82c4e117d6", func := "example.com/hopweave/hopweave/zzlaws_ring_b1.FnSettledPlaceAndPast", spec := "fnSettledPlaceAndPast", unfollowed := true, recurses := true, apart := false }
def FnSettledPlaceAndPastSaid : Prop := fnSettledPlaceAndPastRow.holds Try.pinned (OpenSpec.ofChange fnSettledPlaceAndPastSpec)

/-- ITS FALSE NEIGHBOUR: 'it returns false'. Refute it at one input. -/
def fnSettledPlaceAndPastWrong : ChangeSpec := { name := "fnSettledPlaceAndPast", fn := fun _ => fun
  | [d1, d2, d3] => { results := [.lit (.bool false)], args := [d1, d2, d3] }
  | _ => none }
def FnSettledPlaceAndPastWrongFalsely : Prop := fnSettledPlaceAndPastRow.holds Try.pinned (OpenSpec.ofChange fnSettledPlaceAndPastWrong)

/-- 'zzlaws_ring_b1.FnLeftOnSettledRing': WHATEVER THE INPUT: true; the input reads as it did. -/
def fnLeftOnSettledRingSpec : ChangeSpec := { name := "fnLeftOnSettledRing", fn := fun _ => fun
  | [d1, d2, d3, d4] => { results := [.lit (.bool true)], args := [d1, d2, d3, d4] }
  | _ => none }
def fnLeftOnSettledRingRow : OpenClaim := { program := "qxb6618031a", sum := "fea2198322ccb9b977f090a94e34e626c62ab34a8f9969d82bab6a82c4e117d6", func := "example.com/hopweave/hopweave/zzlaws_ring_b1.FnLeftOnSettledRing", spec := "fnLeftOnSettledRing", apart := false }
def FnLeftOnSettledRingSaid : Prop := fnLeftOnSettledRingRow.holds Try.pinned (OpenSpec.ofChange fnLeftOnSettledRingSpec)

/-- ITS FALSE NEIGHBOUR: 'it returns false'. Refute it at one input. -/
def fnLeftOnSettledRingWrong : ChangeSpec := { name := "fnLeftOnSettledRing", fn := fun _ => fun
  | [d1, d2, d3, d4] => { results := [.lit (.bool false)], args := [d1, d2, d3, d4] }
  | _ => none }
def FnLeftOnSettledRingWrongFalsely : Prop := fnLeftOnSettledRingRow.holds Try.pinned (OpenSpec.ofChange fnLeftOnSettledRingWrong)

/-- 'zzlaws_ring_b1.FnPastIsRingOrderedSelection': WHATEVER THE INPUT: true; the input reads as it did. -/
def fnPastIsRingOrderedSelectionSpec : ChangeSpec := { name := "fnPastIsRingOrderedSelection", fn := fun _ => fun
  | [d1, d2, d3, d4, d5] => { results := [.lit (.bool true)], args := [d1, d2, d3, d4, d5] }
  | _ => none }
def fnPastIsRingOrderedSelectionRow : OpenClaim := { program := "qxb6618031a", sum := "fea2198322ccb9b977f090a94e34e626c62ab34a8f9969d82bab6a82c4e117d6", func := "example.com/hopweave/hopweave/zzlaws_ring_b1.FnPastIsRingOrderedSelection", spec := "fnPastIsRingOrderedSelection", unfollowed := true, recurses := true, apart := false }
def FnPastIsRingOrderedSelectionSaid : Prop := fnPastIsRingOrderedSelectionRow.holds Try.pinned (OpenSpec.ofChange fnPastIsRingOrderedSelectionSpec)

/-- ITS FALSE NEIGHBOUR: 'it returns false'. Refute it at one input. -/
def fnPastIsRingOrderedSelectionWrong : ChangeSpec := { name := "fnPastIsRingOrderedSelection", fn := fun _ => fun
  | [d1, d2, d3, d4, d5] => { results := [.lit (.bool false)], args := [d1, d2, d3, d4, d5] }
  | _ => none }
def FnPastIsRingOrderedSelectionWrongFalsely : Prop := fnPastIsRingOrderedSelectionRow.holds Try.pinned (OpenSpec.ofChange fnPastIsRingOrderedSelectionWrong)

end Rows
end Go.Proofs.Qxb6618031a
