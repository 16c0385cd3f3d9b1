/-
  No cell of these rows narrows 'for every input' (looked for: loops, veiled, ifaces, maps, wideKeys, modest, calm, conditions, laid).
  DERIVED. THE GIVEN ROWS OF THIS SEAT. 4 by the template 'for every input the law returns true; each argument reads behind the call as it read before'; 0 by the template 'total and deterministic' (their statements: Qxb6613313aTotals.lean).
  GIVEN WITH THE SEED: the statements are not yours to turn. If you find one false, say at which input.
  Laid BY PROGRAM, IN A SANDBOX (cutbox-rows.mjs): the forced cells as the released guide's own fill.sh prints them over the translation ae17952c76acac42… (all of the seat's roots in one cut). By AI agents, Wed Nov 11 2026. No macro, syntax, notation, axiom, sorry.
-/
import Derived.Test.Qxb6613313aChecked
import GoSem.Claim
import GoSem.ClaimJoined
import GoSem.ClaimMapViews
import Derived.JoinedTies
import Derived.KernelRfl
namespace Go.Proofs.Qxb6613313a
/- THE CELL 'sum', in the pinned program and in every row, IS THE sha256 OF THE DUMP (.gsa) THAT Qxb6613313aProg.lean LOADS. Nothing in Lean hashes anything: it is a label: what it is worth is what the hold of that sum in a sandbox is worth. -/
noncomputable def Try.pinned : Pinned := { name := "qxb6613313a", sum := "ae17952c76acac42471ec5479db5fea1ffa12b79f9510d5ea26658693e230801", checked := Try.checked }
namespace Rows
def none {H : Type} : Left H := { results := [], args := [] }

/-- 'zzlaws_registry_b1.FnObjectSetChangesOnlyFirstMatchAtAnyCut': WHATEVER THE INPUT: true; the input reads as it did. -/
def fnObjectSetChangesOnlyFirstMatchAtAnyCutSpec : ChangeSpec := { name := "fnObjectSetChangesOnlyFirstMatchAtAnyCut", fn := fun _ => fun
  | [d1, d2, d3, d4] => { results := [.lit (.bool true)], args := [d1, d2, d3, d4] }
  | _ => none }
def fnObjectSetChangesOnlyFirstMatchAtAnyCutRow : OpenClaim := { program := "qxb6613313a", sum := "ae17952c76acac42471ec5479db5fea1ffa12b79f9510d5ea26658693e230801", func := "example.com/tabularium/tabularium/zzlaws_registry_b1.FnObjectSetChangesOnlyFirstMatchAtAnyCut", spec := "fnObjectSetChangesOnlyFirstMatchAtAnyCut", apart := false }
def FnObjectSetChangesOnlyFirstMatchAtAnyCutSaid : Prop := fnObjectSetChangesOnlyFirstMatchAtAnyCutRow.holds Try.pinned (OpenSpec.ofChange fnObjectSetChangesOnlyFirstMatchAtAnyCutSpec)

/-- ITS FALSE NEIGHBOUR: 'it returns false'. Refute it at one input. -/
def fnObjectSetChangesOnlyFirstMatchAtAnyCutWrong : ChangeSpec := { name := "fnObjectSetChangesOnlyFirstMatchAtAnyCut", fn := fun _ => fun
  | [d1, d2, d3, d4] => { results := [.lit (.bool false)], args := [d1, d2, d3, d4] }
  | _ => none }
def FnObjectSetChangesOnlyFirstMatchAtAnyCutWrongFalsely : Prop := fnObjectSetChangesOnlyFirstMatchAtAnyCutRow.holds Try.pinned (OpenSpec.ofChange fnObjectSetChangesOnlyFirstMatchAtAnyCutWrong)

/-- 'zzlaws_registry_b1.FnObjectSetLastWriteWinsDistinctNamesCommute': WHATEVER THE INPUT: true; the input reads as it did. -/
def fnObjectSetLastWriteWinsDistinctNamesCommuteSpec : ChangeSpec := { name := "fnObjectSetLastWriteWinsDistinctNamesCommute", fn := fun _ => fun
  | [d1, d2, d3, d4, d5] => { results := [.lit (.bool true)], args := [d1, d2, d3, d4, d5] }
  | _ => none }
def fnObjectSetLastWriteWinsDistinctNamesCommuteRow : OpenClaim := { program := "qxb6613313a", sum := "ae17952c76acac42471ec5479db5fea1ffa12b79f9510d5ea26658693e230801", func := "example.com/tabularium/tabularium/zzlaws_registry_b1.FnObjectSetLastWriteWinsDistinctNamesCommute", spec := "fnObjectSetLastWriteWinsDistinctNamesCommute", apart := false }
def FnObjectSetLastWriteWinsDistinctNamesCommuteSaid : Prop := fnObjectSetLastWriteWinsDistinctNamesCommuteRow.holds Try.pinned (OpenSpec.ofChange fnObjectSetLastWriteWinsDistinctNamesCommuteSpec)

/-- ITS FALSE NEIGHBOUR: 'it returns false'. Refute it at one input. -/
def fnObjectSetLastWriteWinsDistinctNamesCommuteWrong : ChangeSpec := { name := "fnObjectSetLastWriteWinsDistinctNamesCommute", fn := fun _ => fun
  | [d1, d2, d3, d4, d5] => { results := [.lit (.bool false)], args := [d1, d2, d3, d4, d5] }
  | _ => none }
def FnObjectSetLastWriteWinsDistinctNamesCommuteWrongFalsely : Prop := fnObjectSetLastWriteWinsDistinctNamesCommuteRow.holds Try.pinned (OpenSpec.ofChange fnObjectSetLastWriteWinsDistinctNamesCommuteWrong)

/-- 'zzlaws_registry_b1.FnFilterStringJoinsAtAnyCut': WHATEVER THE INPUT: true; the input reads as it did. -/
def fnFilterStringJoinsAtAnyCutSpec : ChangeSpec := { name := "fnFilterStringJoinsAtAnyCut", fn := fun _ => fun
  | [d1, d2] => { results := [.lit (.bool true)], args := [d1, d2] }
  | _ => none }
def fnFilterStringJoinsAtAnyCutRow : OpenClaim := { program := "qxb6613313a", sum := "ae17952c76acac42471ec5479db5fea1ffa12b79f9510d5ea26658693e230801", func := "example.com/tabularium/tabularium/zzlaws_registry_b1.FnFilterStringJoinsAtAnyCut", spec := "fnFilterStringJoinsAtAnyCut", inPlace := ["internal/abi.NoEscape", "internal/bytealg.MakeNoZero"], unfollowed := true, recurses := true, apart := false }
def FnFilterStringJoinsAtAnyCutSaid : Prop := fnFilterStringJoinsAtAnyCutRow.holds Try.pinned (OpenSpec.ofChange fnFilterStringJoinsAtAnyCutSpec)

/-- ITS FALSE NEIGHBOUR: 'it returns false'. Refute it at one input. -/
def fnFilterStringJoinsAtAnyCutWrong : ChangeSpec := { name := "fnFilterStringJoinsAtAnyCut", fn := fun _ => fun
  | [d1, d2] => { results := [.lit (.bool false)], args := [d1, d2] }
  | _ => none }
def FnFilterStringJoinsAtAnyCutWrongFalsely : Prop := fnFilterStringJoinsAtAnyCutRow.holds Try.pinned (OpenSpec.ofChange fnFilterStringJoinsAtAnyCutWrong)

/-- 'zzlaws_registry_b1.FnFilterStringNestedEqualsFlattened': WHATEVER THE INPUT: true; the input reads as it did. -/
def fnFilterStringNestedEqualsFlattenedSpec : ChangeSpec := { name := "fnFilterStringNestedEqualsFlattened", fn := fun _ => fun
  | [d1, d2, d3, d4, d5] => { results := [.lit (.bool true)], args := [d1, d2, d3, d4, d5] }
  | _ => none }
def fnFilterStringNestedEqualsFlattenedRow : OpenClaim := { program := "qxb6613313a", sum := "ae17952c76acac42471ec5479db5fea1ffa12b79f9510d5ea26658693e230801", func := "example.com/tabularium/tabularium/zzlaws_registry_b1.FnFilterStringNestedEqualsFlattened", spec := "fnFilterStringNestedEqualsFlattened", inPlace := ["internal/abi.NoEscape", "internal/bytealg.MakeNoZero"], unfollowed := true, recurses := true, apart := false }
def FnFilterStringNestedEqualsFlattenedSaid : Prop := fnFilterStringNestedEqualsFlattenedRow.holds Try.pinned (OpenSpec.ofChange fnFilterStringNestedEqualsFlattenedSpec)

/-- ITS FALSE NEIGHBOUR: 'it returns false'. Refute it at one input. -/
def fnFilterStringNestedEqualsFlattenedWrong : ChangeSpec := { name := "fnFilterStringNestedEqualsFlattened", fn := fun _ => fun
  | [d1, d2, d3, d4, d5] => { results := [.lit (.bool false)], args := [d1, d2, d3, d4, d5] }
  | _ => none }
def FnFilterStringNestedEqualsFlattenedWrongFalsely : Prop := fnFilterStringNestedEqualsFlattenedRow.holds Try.pinned (OpenSpec.ofChange fnFilterStringNestedEqualsFlattenedWrong)

end Rows
end Go.Proofs.Qxb6613313a
