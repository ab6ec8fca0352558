/-
  DERIVED. GIVEN WITH THE SEED: THE CARDS: each row of Qxb6618064aDoorRows.lean that lists a variable, with what it lists TIED to the program's text (the seventh form; the later family's looks); each row that meets fmt, with fmt's text TOLD by the authors' own Lean function (tested against real Go, not proved from fmt's source: count such statements apart). THE CARD IS WHAT COUNTS. Prove the row's statement (the work); the ties are given (Qxb6618064aDoorTie.lean); close each card by the builder's one call (the guide's Derived/Test/ToyasCard.lean, 'card_holds'). Laid BY PROGRAM, IN A SANDBOX (cutbox-door.mjs). By AI agents, Wed Nov 11 2026. No macro, syntax, notation, axiom, sorry.
-/
import Derived.Test.Qxb6618064aDoorRows
import GoSem.ClaimSeven
namespace Go.Proofs.Qxb6618064aDoor
namespace Rows

/-- THE TIED CARD OF 'zzlaws_pkg_header_b1.FnUnescapeEveryEscapeAlone'. -/
def fnUnescapeEveryEscapeAloneCard : Claim7 := { stood := { row := fnUnescapeEveryEscapeAloneRow, standIns := [], harness := (true, "0ab6f9dd1c0fc3f739546d13017c550e5dc47c73e31a5042066c3d6e79422276"), looks := true }, kinds := [], alts := [], laidByText := true, laidKinds := [.data, .data, .data, .sentinel, .sentinel], laidTests := true, laidLooks := .later }
def FnUnescapeEveryEscapeAloneCardSaid : Prop := Claim7.holds Tryd.pinned (.plain (OpenSpec.ofChange fnUnescapeEveryEscapeAloneSpec)) fnUnescapeEveryEscapeAloneCard

/-- THE TIED CARD OF 'zzlaws_pkg_header_b1.FnUnescapeSplitsAtCleanCut'. -/
def fnUnescapeSplitsAtCleanCutCard : Claim7 := { stood := { row := fnUnescapeSplitsAtCleanCutRow, standIns := [], harness := (true, "0ab6f9dd1c0fc3f739546d13017c550e5dc47c73e31a5042066c3d6e79422276"), looks := true }, kinds := [], alts := [], laidByText := true, laidKinds := [.data, .data, .data, .sentinel, .sentinel], laidTests := true, laidLooks := .later }
def FnUnescapeSplitsAtCleanCutCardSaid : Prop := Claim7.holds Tryd.pinned (.plain (OpenSpec.ofChange fnUnescapeSplitsAtCleanCutSpec)) fnUnescapeSplitsAtCleanCutCard

/-- THE TIED CARD OF 'zzlaws_pkg_header_b1.FnSparseMapSaysTheHoleOnce'. -/
def fnSparseMapSaysTheHoleOnceCard : Claim7 := { stood := { row := fnSparseMapSaysTheHoleOnceRow, standIns := [], harness := (true, "0ab6f9dd1c0fc3f739546d13017c550e5dc47c73e31a5042066c3d6e79422276"), looks := true }, kinds := [], alts := [], laidByText := true, laidKinds := [.data, .data, .data], laidTests := true, laidLooks := .later }
def FnSparseMapSaysTheHoleOnceCardSaid : Prop := Claim7.holds Tryd.pinned (.plain (OpenSpec.ofChange fnSparseMapSaysTheHoleOnceSpec)) fnSparseMapSaysTheHoleOnceCard

/-- THE TIED CARD OF 'zzlaws_pkg_header_b1.FnSparseMapReadsBack'. -/
def fnSparseMapReadsBackCard : Claim7 := { stood := { row := fnSparseMapReadsBackRow, standIns := [], harness := (true, "0ab6f9dd1c0fc3f739546d13017c550e5dc47c73e31a5042066c3d6e79422276"), looks := true }, kinds := [], alts := [], laidByText := true, laidKinds := [.data, .data, .data], laidTests := true, laidLooks := .later }
def FnSparseMapReadsBackCardSaid : Prop := Claim7.holds Tryd.pinned (.plain (OpenSpec.ofChange fnSparseMapReadsBackSpec)) fnSparseMapReadsBackCard
end Rows
end Go.Proofs.Qxb6618064aDoor
