/-
  NARROWER THAN 'FOR EVERY INPUT', by the rows' own cells (each row's printed sentence says how): FnUnescapeEveryEscapeAlone: laid · FnUnescapeSplitsAtCleanCut: laid · FnSparseMapSaysTheHoleOnce: laid · FnSparseMapReadsBack: laid.
  DERIVED. THE GIVEN ROWS OF THIS SEAT. 4 by the template 'for every input the law returns true; each argument reads behind the call as it read before'; 0 by the template 'total and deterministic' (their statements: Qxb6618064aDoorTotals.lean).
  GIVEN WITH THE SEED: the statements are not yours to turn. If you find one false, say at which input.
  Laid BY PROGRAM, IN A SANDBOX (cutbox-rows.mjs): the forced cells as the released guide's own fill.sh prints them over the translation d70afae880e54b1a… (all of the seat's roots in one cut). By AI agents, Wed Nov 11 2026. No macro, syntax, notation, axiom, sorry.
-/
import Derived.Test.Qxb6618064aDoorChecked
import GoSem.Claim
import GoSem.ClaimJoined
import GoSem.ClaimMapViews
import Derived.JoinedTies
import Derived.KernelRfl
namespace Go.Proofs.Qxb6618064aDoor
/- THE CELL 'sum', in the pinned program and in every row, IS THE sha256 OF THE DUMP (.gsa) THAT Qxb6618064aDoorProg.lean LOADS. Nothing in Lean hashes anything: it is a label: what it is worth is what the hold of that sum in a sandbox is worth. -/
noncomputable def Tryd.pinned : Pinned := { name := "qxb6618064adoor", sum := "d70afae880e54b1ae7743441910e41744965d4b064ce11c685f1c11a34d19bbe", checked := Tryd.checked }
namespace Rows
def none {H : Type} : Left H := { results := [], args := [] }

/- WHAT THE LISTED PACKAGE-LEVEL VARIABLES READ AS WHEN THE CALL BEGINS. Each datum BY PROGRAM (the guide's laid-datum.mjs) off the statement by which the dump's own 'gosem.cut.vars' lays the variable. In a bare row this is a premise. The card (Qxb6618064aDoorCards.lean) ties it to the program's text. -/
def laid_math_bits_deBruijn32tab {H : Type} : DataW H := .agg [.lit (.int .u8 0), .lit (.int .u8 1), .lit (.int .u8 28), .lit (.int .u8 2), .lit (.int .u8 29), .lit (.int .u8 14), .lit (.int .u8 24), .lit (.int .u8 3), .lit (.int .u8 30), .lit (.int .u8 22), .lit (.int .u8 20), .lit (.int .u8 15), .lit (.int .u8 25), .lit (.int .u8 17), .lit (.int .u8 4), .lit (.int .u8 8), .lit (.int .u8 31), .lit (.int .u8 27), .lit (.int .u8 13), .lit (.int .u8 23), .lit (.int .u8 21), .lit (.int .u8 19), .lit (.int .u8 16), .lit (.int .u8 7), .lit (.int .u8 26), .lit (.int .u8 12), .lit (.int .u8 18), .lit (.int .u8 6), .lit (.int .u8 11), .lit (.int .u8 5), .lit (.int .u8 10), .lit (.int .u8 9)]
def laid_math_bits_deBruijn64tab {H : Type} : DataW H := .agg [.lit (.int .u8 0), .lit (.int .u8 1), .lit (.int .u8 56), .lit (.int .u8 2), .lit (.int .u8 57), .lit (.int .u8 49), .lit (.int .u8 28), .lit (.int .u8 3), .lit (.int .u8 61), .lit (.int .u8 58), .lit (.int .u8 42), .lit (.int .u8 50), .lit (.int .u8 38), .lit (.int .u8 29), .lit (.int .u8 17), .lit (.int .u8 4), .lit (.int .u8 62), .lit (.int .u8 47), .lit (.int .u8 59), .lit (.int .u8 36), .lit (.int .u8 45), .lit (.int .u8 43), .lit (.int .u8 51), .lit (.int .u8 22), .lit (.int .u8 53), .lit (.int .u8 39), .lit (.int .u8 33), .lit (.int .u8 30), .lit (.int .u8 24), .lit (.int .u8 18), .lit (.int .u8 12), .lit (.int .u8 5), .lit (.int .u8 63), .lit (.int .u8 55), .lit (.int .u8 48), .lit (.int .u8 27), .lit (.int .u8 60), .lit (.int .u8 41), .lit (.int .u8 37), .lit (.int .u8 16), .lit (.int .u8 46), .lit (.int .u8 35), .lit (.int .u8 44), .lit (.int .u8 21), .lit (.int .u8 52), .lit (.int .u8 32), .lit (.int .u8 23), .lit (.int .u8 11), .lit (.int .u8 54), .lit (.int .u8 26), .lit (.int .u8 40), .lit (.int .u8 15), .lit (.int .u8 34), .lit (.int .u8 20), .lit (.int .u8 31), .lit (.int .u8 10), .lit (.int .u8 25), .lit (.int .u8 14), .lit (.int .u8 19), .lit (.int .u8 9), .lit (.int .u8 13), .lit (.int .u8 8), .lit (.int .u8 7), .lit (.int .u8 6)]
def laid_internal_strconv_uint64pow10 {H : Type} : DataW H := .agg [.lit (.int .u64 1), .lit (.int .u64 10), .lit (.int .u64 100), .lit (.int .u64 1000), .lit (.int .u64 10000), .lit (.int .u64 100000), .lit (.int .u64 1000000), .lit (.int .u64 10000000), .lit (.int .u64 100000000), .lit (.int .u64 1000000000), .lit (.int .u64 10000000000), .lit (.int .u64 100000000000), .lit (.int .u64 1000000000000), .lit (.int .u64 10000000000000), .lit (.int .u64 100000000000000), .lit (.int .u64 1000000000000000), .lit (.int .u64 10000000000000000), .lit (.int .u64 100000000000000000), .lit (.int .u64 1000000000000000000), .lit (.int .u64 10000000000000000000)]
def laid_strconv_ErrRange {H : Type} : DataW H := .iface "*errors.errorString" (.ptr (.agg [.lit (.string [118, 97, 108, 117, 101, 32, 111, 117, 116, 32, 111, 102, 32, 114, 97, 110, 103, 101])]))
def laid_strconv_ErrSyntax {H : Type} : DataW H := .iface "*errors.errorString" (.ptr (.agg [.lit (.string [105, 110, 118, 97, 108, 105, 100, 32, 115, 121, 110, 116, 97, 120])]))

/-- 'zzlaws_pkg_header_b1.FnUnescapeEveryEscapeAlone': WHATEVER THE INPUT: true; the input reads as it did. -/
def fnUnescapeEveryEscapeAloneSpec : ChangeSpec := { name := "fnUnescapeEveryEscapeAlone", fn := fun _ => fun
  | [d] => { results := [.lit (.bool true)], args := [d] }
  | _ => none }
def fnUnescapeEveryEscapeAloneRow : OpenClaim := { program := "qxb6618064adoor", sum := "d70afae880e54b1ae7743441910e41744965d4b064ce11c685f1c11a34d19bbe", func := "example.com/sheaf/sheaf/zzlaws_pkg_header_b1.FnUnescapeEveryEscapeAlone", spec := "fnUnescapeEveryEscapeAlone", inPlace := ["internal/bytealg.IndexByteString", "internal/bytealg.IndexString"], named := ["internal/bytealg.MaxLen", "strconv.ErrSyntax", "strconv.ErrRange", "internal/strconv.uint64pow10", "math/bits.deBruijn32tab", "math/bits.deBruijn64tab"], apart := false, laid := [("math/bits.deBruijn32tab", laid_math_bits_deBruijn32tab), ("math/bits.deBruijn64tab", laid_math_bits_deBruijn64tab), ("internal/strconv.uint64pow10", laid_internal_strconv_uint64pow10), ("strconv.ErrRange", laid_strconv_ErrRange), ("strconv.ErrSyntax", laid_strconv_ErrSyntax)] }
def FnUnescapeEveryEscapeAloneSaid : Prop := fnUnescapeEveryEscapeAloneRow.holds Tryd.pinned (OpenSpec.ofChange fnUnescapeEveryEscapeAloneSpec)

/-- ITS FALSE NEIGHBOUR: 'it returns false'. Refute it at one input. -/
def fnUnescapeEveryEscapeAloneWrong : ChangeSpec := { name := "fnUnescapeEveryEscapeAlone", fn := fun _ => fun
  | [d] => { results := [.lit (.bool false)], args := [d] }
  | _ => none }
def FnUnescapeEveryEscapeAloneWrongFalsely : Prop := fnUnescapeEveryEscapeAloneRow.holds Tryd.pinned (OpenSpec.ofChange fnUnescapeEveryEscapeAloneWrong)

/-- 'zzlaws_pkg_header_b1.FnUnescapeSplitsAtCleanCut': WHATEVER THE INPUT: true; the input reads as it did. -/
def fnUnescapeSplitsAtCleanCutSpec : ChangeSpec := { name := "fnUnescapeSplitsAtCleanCut", fn := fun _ => fun
  | [d1, d2] => { results := [.lit (.bool true)], args := [d1, d2] }
  | _ => none }
def fnUnescapeSplitsAtCleanCutRow : OpenClaim := { program := "qxb6618064adoor", sum := "d70afae880e54b1ae7743441910e41744965d4b064ce11c685f1c11a34d19bbe", func := "example.com/sheaf/sheaf/zzlaws_pkg_header_b1.FnUnescapeSplitsAtCleanCut", spec := "fnUnescapeSplitsAtCleanCut", inPlace := ["internal/bytealg.IndexByteString", "internal/bytealg.IndexString"], named := ["internal/bytealg.MaxLen", "strconv.ErrSyntax", "strconv.ErrRange", "internal/strconv.uint64pow10", "math/bits.deBruijn32tab", "math/bits.deBruijn64tab"], apart := false, laid := [("math/bits.deBruijn32tab", laid_math_bits_deBruijn32tab), ("math/bits.deBruijn64tab", laid_math_bits_deBruijn64tab), ("internal/strconv.uint64pow10", laid_internal_strconv_uint64pow10), ("strconv.ErrRange", laid_strconv_ErrRange), ("strconv.ErrSyntax", laid_strconv_ErrSyntax)] }
def FnUnescapeSplitsAtCleanCutSaid : Prop := fnUnescapeSplitsAtCleanCutRow.holds Tryd.pinned (OpenSpec.ofChange fnUnescapeSplitsAtCleanCutSpec)

/-- ITS FALSE NEIGHBOUR: 'it returns false'. Refute it at one input. -/
def fnUnescapeSplitsAtCleanCutWrong : ChangeSpec := { name := "fnUnescapeSplitsAtCleanCut", fn := fun _ => fun
  | [d1, d2] => { results := [.lit (.bool false)], args := [d1, d2] }
  | _ => none }
def FnUnescapeSplitsAtCleanCutWrongFalsely : Prop := fnUnescapeSplitsAtCleanCutRow.holds Tryd.pinned (OpenSpec.ofChange fnUnescapeSplitsAtCleanCutWrong)

/-- 'zzlaws_pkg_header_b1.FnSparseMapSaysTheHoleOnce': WHATEVER THE INPUT: true; the input reads as it did. -/
def fnSparseMapSaysTheHoleOnceSpec : ChangeSpec := { name := "fnSparseMapSaysTheHoleOnce", fn := fun _ => fun
  | [d1, d2, d3] => { results := [.lit (.bool true)], args := [d1, d2, d3] }
  | _ => none }
def fnSparseMapSaysTheHoleOnceRow : OpenClaim := { program := "qxb6618064adoor", sum := "d70afae880e54b1ae7743441910e41744965d4b064ce11c685f1c11a34d19bbe", func := "example.com/sheaf/sheaf/zzlaws_pkg_header_b1.FnSparseMapSaysTheHoleOnce", spec := "fnSparseMapSaysTheHoleOnce", named := ["internal/strconv.uint64pow10", "math/bits.deBruijn32tab", "math/bits.deBruijn64tab"], apart := false, laid := [("math/bits.deBruijn32tab", laid_math_bits_deBruijn32tab), ("math/bits.deBruijn64tab", laid_math_bits_deBruijn64tab), ("internal/strconv.uint64pow10", laid_internal_strconv_uint64pow10)] }
def FnSparseMapSaysTheHoleOnceSaid : Prop := fnSparseMapSaysTheHoleOnceRow.holds Tryd.pinned (OpenSpec.ofChange fnSparseMapSaysTheHoleOnceSpec)

/-- ITS FALSE NEIGHBOUR: 'it returns false'. Refute it at one input. -/
def fnSparseMapSaysTheHoleOnceWrong : ChangeSpec := { name := "fnSparseMapSaysTheHoleOnce", fn := fun _ => fun
  | [d1, d2, d3] => { results := [.lit (.bool false)], args := [d1, d2, d3] }
  | _ => none }
def FnSparseMapSaysTheHoleOnceWrongFalsely : Prop := fnSparseMapSaysTheHoleOnceRow.holds Tryd.pinned (OpenSpec.ofChange fnSparseMapSaysTheHoleOnceWrong)

/-- 'zzlaws_pkg_header_b1.FnSparseMapReadsBack': WHATEVER THE INPUT: true; the input reads as it did. -/
def fnSparseMapReadsBackSpec : ChangeSpec := { name := "fnSparseMapReadsBack", fn := fun _ => fun
  | [d1, d2, d3] => { results := [.lit (.bool true)], args := [d1, d2, d3] }
  | _ => none }
def fnSparseMapReadsBackRow : OpenClaim := { program := "qxb6618064adoor", sum := "d70afae880e54b1ae7743441910e41744965d4b064ce11c685f1c11a34d19bbe", func := "example.com/sheaf/sheaf/zzlaws_pkg_header_b1.FnSparseMapReadsBack", spec := "fnSparseMapReadsBack", named := ["internal/strconv.uint64pow10", "math/bits.deBruijn32tab", "math/bits.deBruijn64tab"], apart := false, laid := [("math/bits.deBruijn32tab", laid_math_bits_deBruijn32tab), ("math/bits.deBruijn64tab", laid_math_bits_deBruijn64tab), ("internal/strconv.uint64pow10", laid_internal_strconv_uint64pow10)] }
def FnSparseMapReadsBackSaid : Prop := fnSparseMapReadsBackRow.holds Tryd.pinned (OpenSpec.ofChange fnSparseMapReadsBackSpec)

/-- ITS FALSE NEIGHBOUR: 'it returns false'. Refute it at one input. -/
def fnSparseMapReadsBackWrong : ChangeSpec := { name := "fnSparseMapReadsBack", fn := fun _ => fun
  | [d1, d2, d3] => { results := [.lit (.bool false)], args := [d1, d2, d3] }
  | _ => none }
def FnSparseMapReadsBackWrongFalsely : Prop := fnSparseMapReadsBackRow.holds Tryd.pinned (OpenSpec.ofChange fnSparseMapReadsBackWrong)

end Rows
end Go.Proofs.Qxb6618064aDoor
