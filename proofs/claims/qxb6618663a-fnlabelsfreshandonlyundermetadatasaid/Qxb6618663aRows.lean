/-
  No cell of these rows narrows 'for every input' (looked for: loops, veiled, ifaces, maps, wideKeys, modest, calm, conditions, laid).
  DERIVED. THE GIVEN ROWS OF THIS SEAT. 4 by the template 'for every input the law returns true; each argument reads behind the call as it read before'; 0 by the template 'total and deterministic' (their statements: Qxb6618663aTotals.lean).
  GIVEN WITH THE SEED: the statements are not yours to turn. If you find one false, say at which input.
  Laid BY PROGRAM, IN A SANDBOX (cutbox-rows.mjs): the forced cells as the released guide's own fill.sh prints them over the translation 417689a9d551b45b… (all of the seat's roots in one cut). By AI agents, Wed Nov 11 2026. No macro, syntax, notation, axiom, sorry.
-/
import Derived.Test.Qxb6618663aChecked
import GoSem.Claim
import GoSem.ClaimJoined
import GoSem.ClaimMapViews
import Derived.JoinedTies
import Derived.KernelRfl
namespace Go.Proofs.Qxb6618663a
/- THE CELL 'sum', in the pinned program and in every row, IS THE sha256 OF THE DUMP (.gsa) THAT Qxb6618663aProg.lean LOADS. Nothing in Lean hashes anything: it is a label: what it is worth is what the hold of that sum in a sandbox is worth. -/
noncomputable def Try.pinned : Pinned := { name := "qxb6618663a", sum := "417689a9d551b45ba4176a5013c54ba6c85572ff5d07a1f59db55ce303dec166", checked := Try.checked }
namespace Rows
def none {H : Type} : Left H := { results := [], args := [] }

/-- 'zzlaws_root_b1.FnJSONNumbersJoinWithCommas': WHATEVER THE INPUT: true; the input reads as it did. -/
def fnJSONNumbersJoinWithCommasSpec : ChangeSpec := { name := "fnJSONNumbersJoinWithCommas", fn := fun _ => fun
  | [d1, d2, d3] => { results := [.lit (.bool true)], args := [d1, d2, d3] }
  | _ => none }
def fnJSONNumbersJoinWithCommasRow : OpenClaim := { program := "qxb6618663a", sum := "417689a9d551b45ba4176a5013c54ba6c85572ff5d07a1f59db55ce303dec166", func := "example.com/hubbub/hubbub/zzlaws_root_b1.FnJSONNumbersJoinWithCommas", spec := "fnJSONNumbersJoinWithCommas", apart := false }
def FnJSONNumbersJoinWithCommasSaid : Prop := fnJSONNumbersJoinWithCommasRow.holds Try.pinned (OpenSpec.ofChange fnJSONNumbersJoinWithCommasSpec)

/-- ITS FALSE NEIGHBOUR: 'it returns false'. Refute it at one input. -/
def fnJSONNumbersJoinWithCommasWrong : ChangeSpec := { name := "fnJSONNumbersJoinWithCommas", fn := fun _ => fun
  | [d1, d2, d3] => { results := [.lit (.bool false)], args := [d1, d2, d3] }
  | _ => none }
def FnJSONNumbersJoinWithCommasWrongFalsely : Prop := fnJSONNumbersJoinWithCommasRow.holds Try.pinned (OpenSpec.ofChange fnJSONNumbersJoinWithCommasWrong)

/-- 'zzlaws_root_b1.FnJSONNumbersCutAnywhere': WHATEVER THE INPUT: true; the input reads as it did. -/
def fnJSONNumbersCutAnywhereSpec : ChangeSpec := { name := "fnJSONNumbersCutAnywhere", fn := fun _ => fun
  | [d1, d2, d3, d4] => { results := [.lit (.bool true)], args := [d1, d2, d3, d4] }
  | _ => none }
def fnJSONNumbersCutAnywhereRow : OpenClaim := { program := "qxb6618663a", sum := "417689a9d551b45ba4176a5013c54ba6c85572ff5d07a1f59db55ce303dec166", func := "example.com/hubbub/hubbub/zzlaws_root_b1.FnJSONNumbersCutAnywhere", spec := "fnJSONNumbersCutAnywhere", apart := false }
def FnJSONNumbersCutAnywhereSaid : Prop := fnJSONNumbersCutAnywhereRow.holds Try.pinned (OpenSpec.ofChange fnJSONNumbersCutAnywhereSpec)

/-- ITS FALSE NEIGHBOUR: 'it returns false'. Refute it at one input. -/
def fnJSONNumbersCutAnywhereWrong : ChangeSpec := { name := "fnJSONNumbersCutAnywhere", fn := fun _ => fun
  | [d1, d2, d3, d4] => { results := [.lit (.bool false)], args := [d1, d2, d3, d4] }
  | _ => none }
def FnJSONNumbersCutAnywhereWrongFalsely : Prop := fnJSONNumbersCutAnywhereRow.holds Try.pinned (OpenSpec.ofChange fnJSONNumbersCutAnywhereWrong)

/-- 'zzlaws_root_b1.FnLabelsFreshAndOnlyUnderMetadata': WHATEVER THE INPUT: true; the input reads as it did. -/
def fnLabelsFreshAndOnlyUnderMetadataSpec : ChangeSpec := { name := "fnLabelsFreshAndOnlyUnderMetadata", fn := fun _ => fun
  | [d1, d2, d3] => { results := [.lit (.bool true)], args := [d1, d2, d3] }
  | _ => none }
def fnLabelsFreshAndOnlyUnderMetadataRow : OpenClaim := { program := "qxb6618663a", sum := "417689a9d551b45ba4176a5013c54ba6c85572ff5d07a1f59db55ce303dec166", func := "example.com/hubbub/hubbub/zzlaws_root_b1.FnLabelsFreshAndOnlyUnderMetadata", spec := "fnLabelsFreshAndOnlyUnderMetadata", apart := false }
def FnLabelsFreshAndOnlyUnderMetadataSaid : Prop := fnLabelsFreshAndOnlyUnderMetadataRow.holds Try.pinned (OpenSpec.ofChange fnLabelsFreshAndOnlyUnderMetadataSpec)

/-- ITS FALSE NEIGHBOUR: 'it returns false'. Refute it at one input. -/
def fnLabelsFreshAndOnlyUnderMetadataWrong : ChangeSpec := { name := "fnLabelsFreshAndOnlyUnderMetadata", fn := fun _ => fun
  | [d1, d2, d3] => { results := [.lit (.bool false)], args := [d1, d2, d3] }
  | _ => none }
def FnLabelsFreshAndOnlyUnderMetadataWrongFalsely : Prop := fnLabelsFreshAndOnlyUnderMetadataRow.holds Try.pinned (OpenSpec.ofChange fnLabelsFreshAndOnlyUnderMetadataWrong)

/-- 'zzlaws_root_b1.FnLabelsKeepsStringMembersExactly': WHATEVER THE INPUT: true; the input reads as it did. -/
def fnLabelsKeepsStringMembersExactlySpec : ChangeSpec := { name := "fnLabelsKeepsStringMembersExactly", fn := fun _ => fun
  | [d1, d2, d3, d4] => { results := [.lit (.bool true)], args := [d1, d2, d3, d4] }
  | _ => none }
def fnLabelsKeepsStringMembersExactlyRow : OpenClaim := { program := "qxb6618663a", sum := "417689a9d551b45ba4176a5013c54ba6c85572ff5d07a1f59db55ce303dec166", func := "example.com/hubbub/hubbub/zzlaws_root_b1.FnLabelsKeepsStringMembersExactly", spec := "fnLabelsKeepsStringMembersExactly", apart := false }
def FnLabelsKeepsStringMembersExactlySaid : Prop := fnLabelsKeepsStringMembersExactlyRow.holds Try.pinned (OpenSpec.ofChange fnLabelsKeepsStringMembersExactlySpec)

/-- ITS FALSE NEIGHBOUR: 'it returns false'. Refute it at one input. -/
def fnLabelsKeepsStringMembersExactlyWrong : ChangeSpec := { name := "fnLabelsKeepsStringMembersExactly", fn := fun _ => fun
  | [d1, d2, d3, d4] => { results := [.lit (.bool false)], args := [d1, d2, d3, d4] }
  | _ => none }
def FnLabelsKeepsStringMembersExactlyWrongFalsely : Prop := fnLabelsKeepsStringMembersExactlyRow.holds Try.pinned (OpenSpec.ofChange fnLabelsKeepsStringMembersExactlyWrong)

end Rows
end Go.Proofs.Qxb6618663a
