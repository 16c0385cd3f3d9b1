/-
  No cell of these rows narrows 'for every input' (looked for: loops, veiled, ifaces, maps, wideKeys, modest, calm, conditions, laid).
  DERIVED. THE GIVEN ROWS OF THIS SEAT. 6 by the template 'for every input the law returns true; each argument reads behind the call as it read before'; 0 by the template 'total and deterministic' (their statements: Qxb6613079aTotals.lean).
  GIVEN WITH THE SEED: the statements are not yours to turn. If you find one false, say at which input.
  Laid BY PROGRAM, IN A SANDBOX (cutbox-rows.mjs): the forced cells as the released guide's own fill.sh prints them over the translation e19502430d3d6072… (all of the seat's roots in one cut). By AI agents, Wed Nov 11 2026. No macro, syntax, notation, axiom, sorry.
-/
import Derived.Test.Qxb6613079aChecked
import GoSem.Claim
import GoSem.ClaimJoined
import GoSem.ClaimMapViews
import Derived.JoinedTies
import Derived.KernelRfl
namespace Go.Proofs.Qxb6613079a
/- THE CELL 'sum', in the pinned program and in every row, IS THE sha256 OF THE DUMP (.gsa) THAT Qxb6613079aProg.lean LOADS. Nothing in Lean hashes anything: it is a label: what it is worth is what the hold of that sum in a sandbox is worth. -/
noncomputable def Try.pinned : Pinned := { name := "qxb6613079a", sum := "e19502430d3d6072bbf720e7d82a4ef30fcbb29720c6672fabd9c050da709b1a", checked := Try.checked }
namespace Rows
def none {H : Type} : Left H := { results := [], args := [] }

/-- 'zzlaws_cose_b1.FnLookupProtectedWinsThenUnprotected': WHATEVER THE INPUT: true; the input reads as it did. -/
def fnLookupProtectedWinsThenUnprotectedSpec : ChangeSpec := { name := "fnLookupProtectedWinsThenUnprotected", fn := fun _ => fun
  | [d1, d2, d3, d4] => { results := [.lit (.bool true)], args := [d1, d2, d3, d4] }
  | _ => none }
def fnLookupProtectedWinsThenUnprotectedRow : OpenClaim := { program := "qxb6613079a", sum := "e19502430d3d6072bbf720e7d82a4ef30fcbb29720c6672fabd9c050da709b1a", func := "example.com/countersign/countersign/zzlaws_cose_b1.FnLookupProtectedWinsThenUnprotected", spec := "fnLookupProtectedWinsThenUnprotected", apart := false }
def FnLookupProtectedWinsThenUnprotectedSaid : Prop := fnLookupProtectedWinsThenUnprotectedRow.holds Try.pinned (OpenSpec.ofChange fnLookupProtectedWinsThenUnprotectedSpec)

/-- ITS FALSE NEIGHBOUR: 'it returns false'. Refute it at one input. -/
def fnLookupProtectedWinsThenUnprotectedWrong : ChangeSpec := { name := "fnLookupProtectedWinsThenUnprotected", fn := fun _ => fun
  | [d1, d2, d3, d4] => { results := [.lit (.bool false)], args := [d1, d2, d3, d4] }
  | _ => none }
def FnLookupProtectedWinsThenUnprotectedWrongFalsely : Prop := fnLookupProtectedWinsThenUnprotectedRow.holds Try.pinned (OpenSpec.ofChange fnLookupProtectedWinsThenUnprotectedWrong)

/-- 'zzlaws_cose_b1.FnLookupSwappedHeaders': WHATEVER THE INPUT: true; the input reads as it did. -/
def fnLookupSwappedHeadersSpec : ChangeSpec := { name := "fnLookupSwappedHeaders", fn := fun _ => fun
  | [d1, d2, d3] => { results := [.lit (.bool true)], args := [d1, d2, d3] }
  | _ => none }
def fnLookupSwappedHeadersRow : OpenClaim := { program := "qxb6613079a", sum := "e19502430d3d6072bbf720e7d82a4ef30fcbb29720c6672fabd9c050da709b1a", func := "example.com/countersign/countersign/zzlaws_cose_b1.FnLookupSwappedHeaders", spec := "fnLookupSwappedHeaders", apart := false }
def FnLookupSwappedHeadersSaid : Prop := fnLookupSwappedHeadersRow.holds Try.pinned (OpenSpec.ofChange fnLookupSwappedHeadersSpec)

/-- ITS FALSE NEIGHBOUR: 'it returns false'. Refute it at one input. -/
def fnLookupSwappedHeadersWrong : ChangeSpec := { name := "fnLookupSwappedHeaders", fn := fun _ => fun
  | [d1, d2, d3] => { results := [.lit (.bool false)], args := [d1, d2, d3] }
  | _ => none }
def FnLookupSwappedHeadersWrongFalsely : Prop := fnLookupSwappedHeadersRow.holds Try.pinned (OpenSpec.ofChange fnLookupSwappedHeadersWrong)

/-- 'zzlaws_cose_b1.FnTextClaimAfterSettingAClaim': WHATEVER THE INPUT: true; the input reads as it did. -/
def fnTextClaimAfterSettingAClaimSpec : ChangeSpec := { name := "fnTextClaimAfterSettingAClaim", fn := fun _ => fun
  | [d1, d2, d3] => { results := [.lit (.bool true)], args := [d1, d2, d3] }
  | _ => none }
def fnTextClaimAfterSettingAClaimRow : OpenClaim := { program := "qxb6613079a", sum := "e19502430d3d6072bbf720e7d82a4ef30fcbb29720c6672fabd9c050da709b1a", func := "example.com/countersign/countersign/zzlaws_cose_b1.FnTextClaimAfterSettingAClaim", spec := "fnTextClaimAfterSettingAClaim", apart := false }
def FnTextClaimAfterSettingAClaimSaid : Prop := fnTextClaimAfterSettingAClaimRow.holds Try.pinned (OpenSpec.ofChange fnTextClaimAfterSettingAClaimSpec)

/-- ITS FALSE NEIGHBOUR: 'it returns false'. Refute it at one input. -/
def fnTextClaimAfterSettingAClaimWrong : ChangeSpec := { name := "fnTextClaimAfterSettingAClaim", fn := fun _ => fun
  | [d1, d2, d3] => { results := [.lit (.bool false)], args := [d1, d2, d3] }
  | _ => none }
def FnTextClaimAfterSettingAClaimWrongFalsely : Prop := fnTextClaimAfterSettingAClaimRow.holds Try.pinned (OpenSpec.ofChange fnTextClaimAfterSettingAClaimWrong)

/-- 'zzlaws_cose_b1.FnTextClaimReadsOnlyProtectedClaims': WHATEVER THE INPUT: true; the input reads as it did. -/
def fnTextClaimReadsOnlyProtectedClaimsSpec : ChangeSpec := { name := "fnTextClaimReadsOnlyProtectedClaims", fn := fun _ => fun
  | [d1, d2, d3] => { results := [.lit (.bool true)], args := [d1, d2, d3] }
  | _ => none }
def fnTextClaimReadsOnlyProtectedClaimsRow : OpenClaim := { program := "qxb6613079a", sum := "e19502430d3d6072bbf720e7d82a4ef30fcbb29720c6672fabd9c050da709b1a", func := "example.com/countersign/countersign/zzlaws_cose_b1.FnTextClaimReadsOnlyProtectedClaims", spec := "fnTextClaimReadsOnlyProtectedClaims", apart := false }
def FnTextClaimReadsOnlyProtectedClaimsSaid : Prop := fnTextClaimReadsOnlyProtectedClaimsRow.holds Try.pinned (OpenSpec.ofChange fnTextClaimReadsOnlyProtectedClaimsSpec)

/-- ITS FALSE NEIGHBOUR: 'it returns false'. Refute it at one input. -/
def fnTextClaimReadsOnlyProtectedClaimsWrong : ChangeSpec := { name := "fnTextClaimReadsOnlyProtectedClaims", fn := fun _ => fun
  | [d1, d2, d3] => { results := [.lit (.bool false)], args := [d1, d2, d3] }
  | _ => none }
def FnTextClaimReadsOnlyProtectedClaimsWrongFalsely : Prop := fnTextClaimReadsOnlyProtectedClaimsRow.holds Try.pinned (OpenSpec.ofChange fnTextClaimReadsOnlyProtectedClaimsWrong)

/-- 'zzlaws_cose_b1.FnSubjectAfterSettingAClaim': WHATEVER THE INPUT: true; the input reads as it did. -/
def fnSubjectAfterSettingAClaimSpec : ChangeSpec := { name := "fnSubjectAfterSettingAClaim", fn := fun _ => fun
  | [d1, d2] => { results := [.lit (.bool true)], args := [d1, d2] }
  | _ => none }
def fnSubjectAfterSettingAClaimRow : OpenClaim := { program := "qxb6613079a", sum := "e19502430d3d6072bbf720e7d82a4ef30fcbb29720c6672fabd9c050da709b1a", func := "example.com/countersign/countersign/zzlaws_cose_b1.FnSubjectAfterSettingAClaim", spec := "fnSubjectAfterSettingAClaim", apart := false }
def FnSubjectAfterSettingAClaimSaid : Prop := fnSubjectAfterSettingAClaimRow.holds Try.pinned (OpenSpec.ofChange fnSubjectAfterSettingAClaimSpec)

/-- ITS FALSE NEIGHBOUR: 'it returns false'. Refute it at one input. -/
def fnSubjectAfterSettingAClaimWrong : ChangeSpec := { name := "fnSubjectAfterSettingAClaim", fn := fun _ => fun
  | [d1, d2] => { results := [.lit (.bool false)], args := [d1, d2] }
  | _ => none }
def FnSubjectAfterSettingAClaimWrongFalsely : Prop := fnSubjectAfterSettingAClaimRow.holds Try.pinned (OpenSpec.ofChange fnSubjectAfterSettingAClaimWrong)

/-- 'zzlaws_cose_b1.FnSubjectIgnoresHeaderLabelAndUnprotectedClaims': WHATEVER THE INPUT: true; the input reads as it did. -/
def fnSubjectIgnoresHeaderLabelAndUnprotectedClaimsSpec : ChangeSpec := { name := "fnSubjectIgnoresHeaderLabelAndUnprotectedClaims", fn := fun _ => fun
  | [d1, d2] => { results := [.lit (.bool true)], args := [d1, d2] }
  | _ => none }
def fnSubjectIgnoresHeaderLabelAndUnprotectedClaimsRow : OpenClaim := { program := "qxb6613079a", sum := "e19502430d3d6072bbf720e7d82a4ef30fcbb29720c6672fabd9c050da709b1a", func := "example.com/countersign/countersign/zzlaws_cose_b1.FnSubjectIgnoresHeaderLabelAndUnprotectedClaims", spec := "fnSubjectIgnoresHeaderLabelAndUnprotectedClaims", apart := false }
def FnSubjectIgnoresHeaderLabelAndUnprotectedClaimsSaid : Prop := fnSubjectIgnoresHeaderLabelAndUnprotectedClaimsRow.holds Try.pinned (OpenSpec.ofChange fnSubjectIgnoresHeaderLabelAndUnprotectedClaimsSpec)

/-- ITS FALSE NEIGHBOUR: 'it returns false'. Refute it at one input. -/
def fnSubjectIgnoresHeaderLabelAndUnprotectedClaimsWrong : ChangeSpec := { name := "fnSubjectIgnoresHeaderLabelAndUnprotectedClaims", fn := fun _ => fun
  | [d1, d2] => { results := [.lit (.bool false)], args := [d1, d2] }
  | _ => none }
def FnSubjectIgnoresHeaderLabelAndUnprotectedClaimsWrongFalsely : Prop := fnSubjectIgnoresHeaderLabelAndUnprotectedClaimsRow.holds Try.pinned (OpenSpec.ofChange fnSubjectIgnoresHeaderLabelAndUnprotectedClaimsWrong)

end Rows
end Go.Proofs.Qxb6613079a
