/-
  No cell of these rows narrows 'for every input' (looked for: loops, veiled, ifaces, maps, wideKeys, modest, calm, conditions, laid).
  DERIVED. THE GIVEN ROWS OF THIS SEAT. 6 by the template 'for every input the law returns true; each argument reads behind the call as it read before'; 0 by the template 'total and deterministic' (their statements: Qxb6614579aTotals.lean).
  GIVEN WITH THE SEED: the statements are not yours to turn. If you find one false, say at which input.
  Laid BY PROGRAM, IN A SANDBOX (cutbox-rows.mjs): the forced cells as the released guide's own fill.sh prints them over the translation 07bdbcc1cb4f418c… (all of the seat's roots in one cut). By AI agents, Wed Nov 11 2026. No macro, syntax, notation, axiom, sorry.
-/
import Derived.Test.Qxb6614579aChecked
import GoSem.Claim
import GoSem.ClaimJoined
import GoSem.ClaimMapViews
import Derived.JoinedTies
import Derived.KernelRfl
namespace Go.Proofs.Qxb6614579a
/- THE CELL 'sum', in the pinned program and in every row, IS THE sha256 OF THE DUMP (.gsa) THAT Qxb6614579aProg.lean LOADS. Nothing in Lean hashes anything: it is a label: what it is worth is what the hold of that sum in a sandbox is worth. -/
noncomputable def Try.pinned : Pinned := { name := "qxb6614579a", sum := "07bdbcc1cb4f418c98852b34c8e76a7c39661e8b93e9d9595b66caaa164520a6", checked := Try.checked }
namespace Rows
def none {H : Type} : Left H := { results := [], args := [] }

/-- 'zzlaws_internal_causal_b1.FnImpliesIsReachabilityInTheLineage': WHATEVER THE INPUT: true; the input reads as it did. -/
def fnImpliesIsReachabilityInTheLineageSpec : ChangeSpec := { name := "fnImpliesIsReachabilityInTheLineage", fn := fun _ => fun
  | [d1, d2, d3, d4, d5, d6, d7] => { results := [.lit (.bool true)], args := [d1, d2, d3, d4, d5, d6, d7] }
  | _ => none }
def fnImpliesIsReachabilityInTheLineageRow : OpenClaim := { program := "qxb6614579a", sum := "07bdbcc1cb4f418c98852b34c8e76a7c39661e8b93e9d9595b66caaa164520a6", func := "example.com/causeway/causeway/zzlaws_internal_causal_b1.FnImpliesIsReachabilityInTheLineage", spec := "fnImpliesIsReachabilityInTheLineage", unfollowed := true, recurses := true, apart := false }
def FnImpliesIsReachabilityInTheLineageSaid : Prop := fnImpliesIsReachabilityInTheLineageRow.holds Try.pinned (OpenSpec.ofChange fnImpliesIsReachabilityInTheLineageSpec)

/-- ITS FALSE NEIGHBOUR: 'it returns false'. Refute it at one input. -/
def fnImpliesIsReachabilityInTheLineageWrong : ChangeSpec := { name := "fnImpliesIsReachabilityInTheLineage", fn := fun _ => fun
  | [d1, d2, d3, d4, d5, d6, d7] => { results := [.lit (.bool false)], args := [d1, d2, d3, d4, d5, d6, d7] }
  | _ => none }
def FnImpliesIsReachabilityInTheLineageWrongFalsely : Prop := fnImpliesIsReachabilityInTheLineageRow.holds Try.pinned (OpenSpec.ofChange fnImpliesIsReachabilityInTheLineageWrong)

/-- 'zzlaws_internal_causal_b1.FnImpliesThroughIsImpliesOfTheNarrowedVersion': WHATEVER THE INPUT: true; the input reads as it did. -/
def fnImpliesThroughIsImpliesOfTheNarrowedVersionSpec : ChangeSpec := { name := "fnImpliesThroughIsImpliesOfTheNarrowedVersion", fn := fun _ => fun
  | [d1, d2, d3, d4, d5, d6, d7, d8] => { results := [.lit (.bool true)], args := [d1, d2, d3, d4, d5, d6, d7, d8] }
  | _ => none }
def fnImpliesThroughIsImpliesOfTheNarrowedVersionRow : OpenClaim := { program := "qxb6614579a", sum := "07bdbcc1cb4f418c98852b34c8e76a7c39661e8b93e9d9595b66caaa164520a6", func := "example.com/causeway/causeway/zzlaws_internal_causal_b1.FnImpliesThroughIsImpliesOfTheNarrowedVersion", spec := "fnImpliesThroughIsImpliesOfTheNarrowedVersion", unfollowed := true, recurses := true, apart := false }
def FnImpliesThroughIsImpliesOfTheNarrowedVersionSaid : Prop := fnImpliesThroughIsImpliesOfTheNarrowedVersionRow.holds Try.pinned (OpenSpec.ofChange fnImpliesThroughIsImpliesOfTheNarrowedVersionSpec)

/-- ITS FALSE NEIGHBOUR: 'it returns false'. Refute it at one input. -/
def fnImpliesThroughIsImpliesOfTheNarrowedVersionWrong : ChangeSpec := { name := "fnImpliesThroughIsImpliesOfTheNarrowedVersion", fn := fun _ => fun
  | [d1, d2, d3, d4, d5, d6, d7, d8] => { results := [.lit (.bool false)], args := [d1, d2, d3, d4, d5, d6, d7, d8] }
  | _ => none }
def FnImpliesThroughIsImpliesOfTheNarrowedVersionWrongFalsely : Prop := fnImpliesThroughIsImpliesOfTheNarrowedVersionRow.holds Try.pinned (OpenSpec.ofChange fnImpliesThroughIsImpliesOfTheNarrowedVersionWrong)

/-- 'zzlaws_internal_causal_b1.FnUnmadeIsCoverOfTheNextWrite': WHATEVER THE INPUT: true; the input reads as it did. -/
def fnUnmadeIsCoverOfTheNextWriteSpec : ChangeSpec := { name := "fnUnmadeIsCoverOfTheNextWrite", fn := fun _ => fun
  | [d1, d2, d3, d4, d5] => { results := [.lit (.bool true)], args := [d1, d2, d3, d4, d5] }
  | _ => none }
def fnUnmadeIsCoverOfTheNextWriteRow : OpenClaim := { program := "qxb6614579a", sum := "07bdbcc1cb4f418c98852b34c8e76a7c39661e8b93e9d9595b66caaa164520a6", func := "example.com/causeway/causeway/zzlaws_internal_causal_b1.FnUnmadeIsCoverOfTheNextWrite", spec := "fnUnmadeIsCoverOfTheNextWrite", apart := false }
def FnUnmadeIsCoverOfTheNextWriteSaid : Prop := fnUnmadeIsCoverOfTheNextWriteRow.holds Try.pinned (OpenSpec.ofChange fnUnmadeIsCoverOfTheNextWriteSpec)

/-- ITS FALSE NEIGHBOUR: 'it returns false'. Refute it at one input. -/
def fnUnmadeIsCoverOfTheNextWriteWrong : ChangeSpec := { name := "fnUnmadeIsCoverOfTheNextWrite", fn := fun _ => fun
  | [d1, d2, d3, d4, d5] => { results := [.lit (.bool false)], args := [d1, d2, d3, d4, d5] }
  | _ => none }
def FnUnmadeIsCoverOfTheNextWriteWrongFalsely : Prop := fnUnmadeIsCoverOfTheNextWriteRow.holds Try.pinned (OpenSpec.ofChange fnUnmadeIsCoverOfTheNextWriteWrong)

/-- 'zzlaws_internal_causal_b1.FnUnmadeLooksAtItsOwnIncarnationAlone': WHATEVER THE INPUT: true; the input reads as it did. -/
def fnUnmadeLooksAtItsOwnIncarnationAloneSpec : ChangeSpec := { name := "fnUnmadeLooksAtItsOwnIncarnationAlone", fn := fun _ => fun
  | [d1, d2, d3, d4, d5] => { results := [.lit (.bool true)], args := [d1, d2, d3, d4, d5] }
  | _ => none }
def fnUnmadeLooksAtItsOwnIncarnationAloneRow : OpenClaim := { program := "qxb6614579a", sum := "07bdbcc1cb4f418c98852b34c8e76a7c39661e8b93e9d9595b66caaa164520a6", func := "example.com/causeway/causeway/zzlaws_internal_causal_b1.FnUnmadeLooksAtItsOwnIncarnationAlone", spec := "fnUnmadeLooksAtItsOwnIncarnationAlone", apart := false }
def FnUnmadeLooksAtItsOwnIncarnationAloneSaid : Prop := fnUnmadeLooksAtItsOwnIncarnationAloneRow.holds Try.pinned (OpenSpec.ofChange fnUnmadeLooksAtItsOwnIncarnationAloneSpec)

/-- ITS FALSE NEIGHBOUR: 'it returns false'. Refute it at one input. -/
def fnUnmadeLooksAtItsOwnIncarnationAloneWrong : ChangeSpec := { name := "fnUnmadeLooksAtItsOwnIncarnationAlone", fn := fun _ => fun
  | [d1, d2, d3, d4, d5] => { results := [.lit (.bool false)], args := [d1, d2, d3, d4, d5] }
  | _ => none }
def FnUnmadeLooksAtItsOwnIncarnationAloneWrongFalsely : Prop := fnUnmadeLooksAtItsOwnIncarnationAloneRow.holds Try.pinned (OpenSpec.ofChange fnUnmadeLooksAtItsOwnIncarnationAloneWrong)

/-- 'zzlaws_internal_causal_b1.FnUntoldIsTheFirstUntoldSiblingTakenAlone': WHATEVER THE INPUT: true; the input reads as it did. -/
def fnUntoldIsTheFirstUntoldSiblingTakenAloneSpec : ChangeSpec := { name := "fnUntoldIsTheFirstUntoldSiblingTakenAlone", fn := fun _ => fun
  | [d1, d2, d3, d4, d5, d6, d7, d8, d9, d10, d11, d12] => { results := [.lit (.bool true)], args := [d1, d2, d3, d4, d5, d6, d7, d8, d9, d10, d11, d12] }
  | _ => none }
def fnUntoldIsTheFirstUntoldSiblingTakenAloneRow : OpenClaim := { program := "qxb6614579a", sum := "07bdbcc1cb4f418c98852b34c8e76a7c39661e8b93e9d9595b66caaa164520a6", func := "example.com/causeway/causeway/zzlaws_internal_causal_b1.FnUntoldIsTheFirstUntoldSiblingTakenAlone", spec := "fnUntoldIsTheFirstUntoldSiblingTakenAlone", inPlace := ["internal/bytealg.IndexByteString", "internal/bytealg.IndexString"], unfollowed := true, recurses := true, named := ["internal/bytealg.MaxLen"], apart := false }
def FnUntoldIsTheFirstUntoldSiblingTakenAloneSaid : Prop := fnUntoldIsTheFirstUntoldSiblingTakenAloneRow.holds Try.pinned (OpenSpec.ofChange fnUntoldIsTheFirstUntoldSiblingTakenAloneSpec)

/-- ITS FALSE NEIGHBOUR: 'it returns false'. Refute it at one input. -/
def fnUntoldIsTheFirstUntoldSiblingTakenAloneWrong : ChangeSpec := { name := "fnUntoldIsTheFirstUntoldSiblingTakenAlone", fn := fun _ => fun
  | [d1, d2, d3, d4, d5, d6, d7, d8, d9, d10, d11, d12] => { results := [.lit (.bool false)], args := [d1, d2, d3, d4, d5, d6, d7, d8, d9, d10, d11, d12] }
  | _ => none }
def FnUntoldIsTheFirstUntoldSiblingTakenAloneWrongFalsely : Prop := fnUntoldIsTheFirstUntoldSiblingTakenAloneRow.holds Try.pinned (OpenSpec.ofChange fnUntoldIsTheFirstUntoldSiblingTakenAloneWrong)

/-- 'zzlaws_internal_causal_b1.FnUntoldIsSymmetricAndKnowingAllTellsNothing': WHATEVER THE INPUT: true; the input reads as it did. -/
def fnUntoldIsSymmetricAndKnowingAllTellsNothingSpec : ChangeSpec := { name := "fnUntoldIsSymmetricAndKnowingAllTellsNothing", fn := fun _ => fun
  | [d1, d2, d3, d4, d5, d6, d7, d8, d9, d10, d11, d12] => { results := [.lit (.bool true)], args := [d1, d2, d3, d4, d5, d6, d7, d8, d9, d10, d11, d12] }
  | _ => none }
def fnUntoldIsSymmetricAndKnowingAllTellsNothingRow : OpenClaim := { program := "qxb6614579a", sum := "07bdbcc1cb4f418c98852b34c8e76a7c39661e8b93e9d9595b66caaa164520a6", func := "example.com/causeway/causeway/zzlaws_internal_causal_b1.FnUntoldIsSymmetricAndKnowingAllTellsNothing", spec := "fnUntoldIsSymmetricAndKnowingAllTellsNothing", inPlace := ["internal/bytealg.IndexByteString", "internal/bytealg.IndexString"], unfollowed := true, recurses := true, named := ["internal/bytealg.MaxLen"], apart := false }
def FnUntoldIsSymmetricAndKnowingAllTellsNothingSaid : Prop := fnUntoldIsSymmetricAndKnowingAllTellsNothingRow.holds Try.pinned (OpenSpec.ofChange fnUntoldIsSymmetricAndKnowingAllTellsNothingSpec)

/-- ITS FALSE NEIGHBOUR: 'it returns false'. Refute it at one input. -/
def fnUntoldIsSymmetricAndKnowingAllTellsNothingWrong : ChangeSpec := { name := "fnUntoldIsSymmetricAndKnowingAllTellsNothing", fn := fun _ => fun
  | [d1, d2, d3, d4, d5, d6, d7, d8, d9, d10, d11, d12] => { results := [.lit (.bool false)], args := [d1, d2, d3, d4, d5, d6, d7, d8, d9, d10, d11, d12] }
  | _ => none }
def FnUntoldIsSymmetricAndKnowingAllTellsNothingWrongFalsely : Prop := fnUntoldIsSymmetricAndKnowingAllTellsNothingRow.holds Try.pinned (OpenSpec.ofChange fnUntoldIsSymmetricAndKnowingAllTellsNothingWrong)

end Rows
end Go.Proofs.Qxb6614579a
