/-
  No cell of these rows narrows 'for every input' (looked for: loops, veiled, ifaces, maps, wideKeys, modest, calm, conditions, laid).
  DERIVED. THE GIVEN ROWS OF THIS SEAT. 4 by the template 'for every input the law returns true; each argument reads behind the call as it read before'; 0 by the template 'total and deterministic' (their statements: Qxb6613122aTotals.lean).
  GIVEN WITH THE SEED: the statements are not yours to turn. If you find one false, say at which input.
  Laid BY PROGRAM, IN A SANDBOX (cutbox-rows.mjs): the forced cells as the released guide's own fill.sh prints them over the translation 15edaaedf2501191… (all of the seat's roots in one cut). By AI agents, Wed Nov 11 2026. No macro, syntax, notation, axiom, sorry.
-/
import Derived.Test.Qxb6613122aChecked
import GoSem.Claim
import GoSem.ClaimJoined
import GoSem.ClaimMapViews
import Derived.JoinedTies
import Derived.KernelRfl
namespace Go.Proofs.Qxb6613122a
/- THE CELL 'sum', in the pinned program and in every row, IS THE sha256 OF THE DUMP (.gsa) THAT Qxb6613122aProg.lean LOADS. Nothing in Lean hashes anything: it is a label: what it is worth is what the hold of that sum in a sandbox is worth. -/
noncomputable def Try.pinned : Pinned := { name := "qxb6613122a", sum := "15edaaedf2501191c0e6ab8a6ea1ff68ed6b073b25b679cbd4446891948c5208", checked := Try.checked }
namespace Rows
def none {H : Type} : Left H := { results := [], args := [] }

/-- 'zzlaws_types_known_structpb_b1.FnValueSizeAdditiveOverListCut': WHATEVER THE INPUT: true; the input reads as it did. -/
def fnValueSizeAdditiveOverListCutSpec : ChangeSpec := { name := "fnValueSizeAdditiveOverListCut", fn := fun _ => fun
  | [d1, d2] => { results := [.lit (.bool true)], args := [d1, d2] }
  | _ => none }
def fnValueSizeAdditiveOverListCutRow : OpenClaim := { program := "qxb6613122a", sum := "15edaaedf2501191c0e6ab8a6ea1ff68ed6b073b25b679cbd4446891948c5208", func := "example.com/protoloom/protoloom/zzlaws_types_known_structpb_b1.FnValueSizeAdditiveOverListCut", spec := "fnValueSizeAdditiveOverListCut", inPlace := ["math.Float64frombits"], recurses := true, apart := false }
def FnValueSizeAdditiveOverListCutSaid : Prop := fnValueSizeAdditiveOverListCutRow.holds Try.pinned (OpenSpec.ofChange fnValueSizeAdditiveOverListCutSpec)

/-- ITS FALSE NEIGHBOUR: 'it returns false'. Refute it at one input. -/
def fnValueSizeAdditiveOverListCutWrong : ChangeSpec := { name := "fnValueSizeAdditiveOverListCut", fn := fun _ => fun
  | [d1, d2] => { results := [.lit (.bool false)], args := [d1, d2] }
  | _ => none }
def FnValueSizeAdditiveOverListCutWrongFalsely : Prop := fnValueSizeAdditiveOverListCutRow.holds Try.pinned (OpenSpec.ofChange fnValueSizeAdditiveOverListCutWrong)

/-- 'zzlaws_types_known_structpb_b1.FnGetBoolValueAgreesWithEncoding': WHATEVER THE INPUT: true; the input reads as it did. -/
def fnGetBoolValueAgreesWithEncodingSpec : ChangeSpec := { name := "fnGetBoolValueAgreesWithEncoding", fn := fun _ => fun
  | [d1, d2] => { results := [.lit (.bool true)], args := [d1, d2] }
  | _ => none }
def fnGetBoolValueAgreesWithEncodingRow : OpenClaim := { program := "qxb6613122a", sum := "15edaaedf2501191c0e6ab8a6ea1ff68ed6b073b25b679cbd4446891948c5208", func := "example.com/protoloom/protoloom/zzlaws_types_known_structpb_b1.FnGetBoolValueAgreesWithEncoding", spec := "fnGetBoolValueAgreesWithEncoding", inPlace := ["math.Float64frombits", "math.Float64bits"], recurses := true, named := ["encoding/binary.LittleEndian"], apart := false }
def FnGetBoolValueAgreesWithEncodingSaid : Prop := fnGetBoolValueAgreesWithEncodingRow.holds Try.pinned (OpenSpec.ofChange fnGetBoolValueAgreesWithEncodingSpec)

/-- ITS FALSE NEIGHBOUR: 'it returns false'. Refute it at one input. -/
def fnGetBoolValueAgreesWithEncodingWrong : ChangeSpec := { name := "fnGetBoolValueAgreesWithEncoding", fn := fun _ => fun
  | [d1, d2] => { results := [.lit (.bool false)], args := [d1, d2] }
  | _ => none }
def FnGetBoolValueAgreesWithEncodingWrongFalsely : Prop := fnGetBoolValueAgreesWithEncodingRow.holds Try.pinned (OpenSpec.ofChange fnGetBoolValueAgreesWithEncodingWrong)

/-- 'zzlaws_types_known_structpb_b1.FnValueSizeIsMarshalLength': WHATEVER THE INPUT: true; the input reads as it did. -/
def fnValueSizeIsMarshalLengthSpec : ChangeSpec := { name := "fnValueSizeIsMarshalLength", fn := fun _ => fun
  | [d1, d2, d3, d4] => { results := [.lit (.bool true)], args := [d1, d2, d3, d4] }
  | _ => none }
def fnValueSizeIsMarshalLengthRow : OpenClaim := { program := "qxb6613122a", sum := "15edaaedf2501191c0e6ab8a6ea1ff68ed6b073b25b679cbd4446891948c5208", func := "example.com/protoloom/protoloom/zzlaws_types_known_structpb_b1.FnValueSizeIsMarshalLength", spec := "fnValueSizeIsMarshalLength", inPlace := ["math.Float64frombits", "math.Float64bits"], recurses := true, named := ["encoding/binary.LittleEndian"], apart := false }
def FnValueSizeIsMarshalLengthSaid : Prop := fnValueSizeIsMarshalLengthRow.holds Try.pinned (OpenSpec.ofChange fnValueSizeIsMarshalLengthSpec)

/-- ITS FALSE NEIGHBOUR: 'it returns false'. Refute it at one input. -/
def fnValueSizeIsMarshalLengthWrong : ChangeSpec := { name := "fnValueSizeIsMarshalLength", fn := fun _ => fun
  | [d1, d2, d3, d4] => { results := [.lit (.bool false)], args := [d1, d2, d3, d4] }
  | _ => none }
def FnValueSizeIsMarshalLengthWrongFalsely : Prop := fnValueSizeIsMarshalLengthRow.holds Try.pinned (OpenSpec.ofChange fnValueSizeIsMarshalLengthWrong)

/-- 'zzlaws_types_known_structpb_b1.FnListValueMarshalToEndWritesEncoding': WHATEVER THE INPUT: true; the input reads as it did. -/
def fnListValueMarshalToEndWritesEncodingSpec : ChangeSpec := { name := "fnListValueMarshalToEndWritesEncoding", fn := fun _ => fun
  | [d1, d2] => { results := [.lit (.bool true)], args := [d1, d2] }
  | _ => none }
def fnListValueMarshalToEndWritesEncodingRow : OpenClaim := { program := "qxb6613122a", sum := "15edaaedf2501191c0e6ab8a6ea1ff68ed6b073b25b679cbd4446891948c5208", func := "example.com/protoloom/protoloom/zzlaws_types_known_structpb_b1.FnListValueMarshalToEndWritesEncoding", spec := "fnListValueMarshalToEndWritesEncoding", inPlace := ["math.Float64frombits", "math.Float64bits"], recurses := true, named := ["encoding/binary.LittleEndian"], apart := false }
def FnListValueMarshalToEndWritesEncodingSaid : Prop := fnListValueMarshalToEndWritesEncodingRow.holds Try.pinned (OpenSpec.ofChange fnListValueMarshalToEndWritesEncodingSpec)

/-- ITS FALSE NEIGHBOUR: 'it returns false'. Refute it at one input. -/
def fnListValueMarshalToEndWritesEncodingWrong : ChangeSpec := { name := "fnListValueMarshalToEndWritesEncoding", fn := fun _ => fun
  | [d1, d2] => { results := [.lit (.bool false)], args := [d1, d2] }
  | _ => none }
def FnListValueMarshalToEndWritesEncodingWrongFalsely : Prop := fnListValueMarshalToEndWritesEncodingRow.holds Try.pinned (OpenSpec.ofChange fnListValueMarshalToEndWritesEncodingWrong)

end Rows
end Go.Proofs.Qxb6613122a
