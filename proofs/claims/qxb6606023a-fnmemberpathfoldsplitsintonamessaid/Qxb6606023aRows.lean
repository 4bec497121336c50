/-
  No cell of these rows narrows 'for every input' (looked for: loops, veiled, ifaces, maps, wideKeys, modest, calm, conditions, laid).
  DERIVED. THE GIVEN ROWS OF THIS SEAT. 5 by the template 'for every input the law returns true; each argument reads behind the call as it read before'; 0 by the template 'total and deterministic' (their statements: Qxb6606023aTotals.lean).
  GIVEN WITH THE SEED: the statements are not yours to turn. If you find one false, say at which input.
  Laid BY PROGRAM, IN A SANDBOX (cutbox-rows.mjs): the forced cells as the released guide's own fill.sh prints them over the translation 3c503f311a25463f… (all of the seat's roots in one cut). By AI agents, Wed Nov 11 2026. No macro, syntax, notation, axiom, sorry.
-/
import Derived.Test.Qxb6606023aChecked
import GoSem.Claim
import GoSem.ClaimJoined
import GoSem.ClaimMapViews
import Derived.JoinedTies
import Derived.KernelRfl
namespace Go.Proofs.Qxb6606023a
/- THE CELL 'sum', in the pinned program and in every row, IS THE sha256 OF THE DUMP (.gsa) THAT Qxb6606023aProg.lean LOADS. Nothing in Lean hashes anything: it is a label: what it is worth is what the hold of that sum in a sandbox is worth. -/
noncomputable def Try.pinned : Pinned := { name := "qxb6606023a", sum := "3c503f311a25463f3abbbac6087babc69338efae0f4a4fbd7f8448fad3a8eb13", checked := Try.checked }
namespace Rows
def none {H : Type} : Left H := { results := [], args := [] }

/-- 'zzlaws_internal_config_b1.FnMaxRequestBodySizeWholeMiBRoundTrip': WHATEVER THE INPUT: true; the input reads as it did. -/
def fnMaxRequestBodySizeWholeMiBRoundTripSpec : ChangeSpec := { name := "fnMaxRequestBodySizeWholeMiBRoundTrip", fn := fun _ => fun
  | [d] => { results := [.lit (.bool true)], args := [d] }
  | _ => none }
def fnMaxRequestBodySizeWholeMiBRoundTripRow : OpenClaim := { program := "qxb6606023a", sum := "3c503f311a25463f3abbbac6087babc69338efae0f4a4fbd7f8448fad3a8eb13", func := "example.com/innsbruck/innsbruck/zzlaws_internal_config_b1.FnMaxRequestBodySizeWholeMiBRoundTrip", spec := "fnMaxRequestBodySizeWholeMiBRoundTrip", apart := false }
def FnMaxRequestBodySizeWholeMiBRoundTripSaid : Prop := fnMaxRequestBodySizeWholeMiBRoundTripRow.holds Try.pinned (OpenSpec.ofChange fnMaxRequestBodySizeWholeMiBRoundTripSpec)

/-- ITS FALSE NEIGHBOUR: 'it returns false'. Refute it at one input. -/
def fnMaxRequestBodySizeWholeMiBRoundTripWrong : ChangeSpec := { name := "fnMaxRequestBodySizeWholeMiBRoundTrip", fn := fun _ => fun
  | [d] => { results := [.lit (.bool false)], args := [d] }
  | _ => none }
def FnMaxRequestBodySizeWholeMiBRoundTripWrongFalsely : Prop := fnMaxRequestBodySizeWholeMiBRoundTripRow.holds Try.pinned (OpenSpec.ofChange fnMaxRequestBodySizeWholeMiBRoundTripWrong)

/-- 'zzlaws_internal_config_b1.FnCoversExactlyNameOrWildcard': WHATEVER THE INPUT: true; the input reads as it did. -/
def fnCoversExactlyNameOrWildcardSpec : ChangeSpec := { name := "fnCoversExactlyNameOrWildcard", fn := fun _ => fun
  | [d1, d2] => { results := [.lit (.bool true)], args := [d1, d2] }
  | _ => none }
def fnCoversExactlyNameOrWildcardRow : OpenClaim := { program := "qxb6606023a", sum := "3c503f311a25463f3abbbac6087babc69338efae0f4a4fbd7f8448fad3a8eb13", func := "example.com/innsbruck/innsbruck/zzlaws_internal_config_b1.FnCoversExactlyNameOrWildcard", spec := "fnCoversExactlyNameOrWildcard", apart := false }
def FnCoversExactlyNameOrWildcardSaid : Prop := fnCoversExactlyNameOrWildcardRow.holds Try.pinned (OpenSpec.ofChange fnCoversExactlyNameOrWildcardSpec)

/-- ITS FALSE NEIGHBOUR: 'it returns false'. Refute it at one input. -/
def fnCoversExactlyNameOrWildcardWrong : ChangeSpec := { name := "fnCoversExactlyNameOrWildcard", fn := fun _ => fun
  | [d1, d2] => { results := [.lit (.bool false)], args := [d1, d2] }
  | _ => none }
def FnCoversExactlyNameOrWildcardWrongFalsely : Prop := fnCoversExactlyNameOrWildcardRow.holds Try.pinned (OpenSpec.ofChange fnCoversExactlyNameOrWildcardWrong)

/-- 'zzlaws_internal_config_b1.FnCoversUnionOfParts': WHATEVER THE INPUT: true; the input reads as it did. -/
def fnCoversUnionOfPartsSpec : ChangeSpec := { name := "fnCoversUnionOfParts", fn := fun _ => fun
  | [d1, d2, d3] => { results := [.lit (.bool true)], args := [d1, d2, d3] }
  | _ => none }
def fnCoversUnionOfPartsRow : OpenClaim := { program := "qxb6606023a", sum := "3c503f311a25463f3abbbac6087babc69338efae0f4a4fbd7f8448fad3a8eb13", func := "example.com/innsbruck/innsbruck/zzlaws_internal_config_b1.FnCoversUnionOfParts", spec := "fnCoversUnionOfParts", apart := false }
def FnCoversUnionOfPartsSaid : Prop := fnCoversUnionOfPartsRow.holds Try.pinned (OpenSpec.ofChange fnCoversUnionOfPartsSpec)

/-- ITS FALSE NEIGHBOUR: 'it returns false'. Refute it at one input. -/
def fnCoversUnionOfPartsWrong : ChangeSpec := { name := "fnCoversUnionOfParts", fn := fun _ => fun
  | [d1, d2, d3] => { results := [.lit (.bool false)], args := [d1, d2, d3] }
  | _ => none }
def FnCoversUnionOfPartsWrongFalsely : Prop := fnCoversUnionOfPartsRow.holds Try.pinned (OpenSpec.ofChange fnCoversUnionOfPartsWrong)

/-- 'zzlaws_internal_config_b1.FnMemberPathLastDotSplitsBack': WHATEVER THE INPUT: true; the input reads as it did. -/
def fnMemberPathLastDotSplitsBackSpec : ChangeSpec := { name := "fnMemberPathLastDotSplitsBack", fn := fun _ => fun
  | [d1, d2] => { results := [.lit (.bool true)], args := [d1, d2] }
  | _ => none }
def fnMemberPathLastDotSplitsBackRow : OpenClaim := { program := "qxb6606023a", sum := "3c503f311a25463f3abbbac6087babc69338efae0f4a4fbd7f8448fad3a8eb13", func := "example.com/innsbruck/innsbruck/zzlaws_internal_config_b1.FnMemberPathLastDotSplitsBack", spec := "fnMemberPathLastDotSplitsBack", apart := false }
def FnMemberPathLastDotSplitsBackSaid : Prop := fnMemberPathLastDotSplitsBackRow.holds Try.pinned (OpenSpec.ofChange fnMemberPathLastDotSplitsBackSpec)

/-- ITS FALSE NEIGHBOUR: 'it returns false'. Refute it at one input. -/
def fnMemberPathLastDotSplitsBackWrong : ChangeSpec := { name := "fnMemberPathLastDotSplitsBack", fn := fun _ => fun
  | [d1, d2] => { results := [.lit (.bool false)], args := [d1, d2] }
  | _ => none }
def FnMemberPathLastDotSplitsBackWrongFalsely : Prop := fnMemberPathLastDotSplitsBackRow.holds Try.pinned (OpenSpec.ofChange fnMemberPathLastDotSplitsBackWrong)

/-- 'zzlaws_internal_config_b1.FnMemberPathFoldSplitsIntoNames': WHATEVER THE INPUT: true; the input reads as it did. -/
def fnMemberPathFoldSplitsIntoNamesSpec : ChangeSpec := { name := "fnMemberPathFoldSplitsIntoNames", fn := fun _ => fun
  | [d] => { results := [.lit (.bool true)], args := [d] }
  | _ => none }
def fnMemberPathFoldSplitsIntoNamesRow : OpenClaim := { program := "qxb6606023a", sum := "3c503f311a25463f3abbbac6087babc69338efae0f4a4fbd7f8448fad3a8eb13", func := "example.com/innsbruck/innsbruck/zzlaws_internal_config_b1.FnMemberPathFoldSplitsIntoNames", spec := "fnMemberPathFoldSplitsIntoNames", apart := false }
def FnMemberPathFoldSplitsIntoNamesSaid : Prop := fnMemberPathFoldSplitsIntoNamesRow.holds Try.pinned (OpenSpec.ofChange fnMemberPathFoldSplitsIntoNamesSpec)

/-- ITS FALSE NEIGHBOUR: 'it returns false'. Refute it at one input. -/
def fnMemberPathFoldSplitsIntoNamesWrong : ChangeSpec := { name := "fnMemberPathFoldSplitsIntoNames", fn := fun _ => fun
  | [d] => { results := [.lit (.bool false)], args := [d] }
  | _ => none }
def FnMemberPathFoldSplitsIntoNamesWrongFalsely : Prop := fnMemberPathFoldSplitsIntoNamesRow.holds Try.pinned (OpenSpec.ofChange fnMemberPathFoldSplitsIntoNamesWrong)

end Rows
end Go.Proofs.Qxb6606023a
