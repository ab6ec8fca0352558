/-
  NARROWER THAN 'FOR EVERY INPUT', by the rows' own cells (each row's printed sentence says how): FnThenMatchesMergeModel: maps.
  DERIVED. THE GIVEN ROWS OF THIS SEAT. 2 by the template 'for every input the law returns true; each argument reads behind the call as it read before'; 0 by the template 'total and deterministic' (their statements: Qxb6618064aTotals.lean).
  GIVEN WITH THE SEED: the statements are not yours to turn. If you find one false, say at which input.
  Laid BY PROGRAM, IN A SANDBOX (cutbox-rows.mjs): the forced cells as the released guide's own fill.sh prints them over the translation 7136efcff419028c… (all of the seat's roots in one cut). By AI agents, Wed Nov 11 2026. No macro, syntax, notation, axiom, sorry.
-/
import Derived.Test.Qxb6618064aChecked
import GoSem.Claim
import GoSem.ClaimJoined
import GoSem.ClaimMapViews
import Derived.JoinedTies
import Derived.KernelRfl
namespace Go.Proofs.Qxb6618064a
/- THE CELL 'sum', in the pinned program and in every row, IS THE sha256 OF THE DUMP (.gsa) THAT Qxb6618064aProg.lean LOADS. Nothing in Lean hashes anything: it is a label: what it is worth is what the hold of that sum in a sandbox is worth. -/
noncomputable def Try.pinned : Pinned := { name := "qxb6618064a", sum := "7136efcff419028cd75f9212d1f0b7bee992baed71715f005a93edb8921f3e94", checked := Try.checked }
namespace Rows
def none {H : Type} : Left H := { results := [], args := [] }

/-- 'zzlaws_pkg_header_b1.FnThenLeavesEarlierRecordsWhole': WHATEVER THE INPUT: true; the input reads as it did. -/
def fnThenLeavesEarlierRecordsWholeSpec : ChangeSpec := { name := "fnThenLeavesEarlierRecordsWhole", fn := fun _ => fun
  | [d1, d2, d3] => { results := [.lit (.bool true)], args := [d1, d2, d3] }
  | _ => none }
def fnThenLeavesEarlierRecordsWholeRow : OpenClaim := { program := "qxb6618064a", sum := "7136efcff419028cd75f9212d1f0b7bee992baed71715f005a93edb8921f3e94", func := "example.com/sheaf/sheaf/zzlaws_pkg_header_b1.FnThenLeavesEarlierRecordsWhole", spec := "fnThenLeavesEarlierRecordsWhole", apart := false }
def FnThenLeavesEarlierRecordsWholeSaid : Prop := fnThenLeavesEarlierRecordsWholeRow.holds Try.pinned (OpenSpec.ofChange fnThenLeavesEarlierRecordsWholeSpec)

/-- ITS FALSE NEIGHBOUR: 'it returns false'. Refute it at one input. -/
def fnThenLeavesEarlierRecordsWholeWrong : ChangeSpec := { name := "fnThenLeavesEarlierRecordsWhole", fn := fun _ => fun
  | [d1, d2, d3] => { results := [.lit (.bool false)], args := [d1, d2, d3] }
  | _ => none }
def FnThenLeavesEarlierRecordsWholeWrongFalsely : Prop := fnThenLeavesEarlierRecordsWholeRow.holds Try.pinned (OpenSpec.ofChange fnThenLeavesEarlierRecordsWholeWrong)

/-- 'zzlaws_pkg_header_b1.FnThenMatchesMergeModel': WHATEVER THE INPUT: true; the input reads as it did. -/
def fnThenMatchesMergeModelSpec : ChangeSpec := { name := "fnThenMatchesMergeModel", fn := fun _ => fun
  | [d1, d2, d3, d4, d5, d6, d7, d8, d9, d10, d11, d12] => { results := [.lit (.bool true)], args := [d1, d2, d3, d4, d5, d6, d7, d8, d9, d10, d11, d12] }
  | _ => none }
def fnThenMatchesMergeModelRow : OpenClaim := { program := "qxb6618064a", sum := "7136efcff419028cd75f9212d1f0b7bee992baed71715f005a93edb8921f3e94", func := "example.com/sheaf/sheaf/zzlaws_pkg_header_b1.FnThenMatchesMergeModel", spec := "fnThenMatchesMergeModel", maps := true, apart := false }
def FnThenMatchesMergeModelSaid : Prop := fnThenMatchesMergeModelRow.holds Try.pinned (OpenSpec.ofChange fnThenMatchesMergeModelSpec)

/-- ITS FALSE NEIGHBOUR: 'it returns false'. Refute it at one input. -/
def fnThenMatchesMergeModelWrong : ChangeSpec := { name := "fnThenMatchesMergeModel", fn := fun _ => fun
  | [d1, d2, d3, d4, d5, d6, d7, d8, d9, d10, d11, d12] => { results := [.lit (.bool false)], args := [d1, d2, d3, d4, d5, d6, d7, d8, d9, d10, d11, d12] }
  | _ => none }
def FnThenMatchesMergeModelWrongFalsely : Prop := fnThenMatchesMergeModelRow.holds Try.pinned (OpenSpec.ofChange fnThenMatchesMergeModelWrong)

end Rows
end Go.Proofs.Qxb6618064a
