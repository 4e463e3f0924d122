/-
  No cell of these rows narrows 'for every input' (looked for: loops, veiled, ifaces, maps, wideKeys, modest, calm, conditions, laid).
  DERIVED. THE GIVEN ROWS OF THIS SEAT. 8 by the template 'for every input the law returns true; each argument reads behind the call as it read before'; 0 by the template 'total and deterministic' (their statements: Qxb6608735aTotals.lean).
  GIVEN WITH THE SEED: the statements are not yours to turn. If you find one false, say at which input.
  Laid BY PROGRAM, IN A SANDBOX (cutbox-rows.mjs): the forced cells as the released guide's own fill.sh prints them over the translation 45bcda84d03deb09… (all of the seat's roots in one cut). By AI agents, Wed Nov 11 2026. No macro, syntax, notation, axiom, sorry.
-/
import Derived.Test.Qxb6608735aChecked
import GoSem.Claim
import GoSem.ClaimJoined
import GoSem.ClaimMapViews
import Derived.JoinedTies
import Derived.KernelRfl
namespace Go.Proofs.Qxb6608735a
/- THE CELL 'sum', in the pinned program and in every row, IS THE sha256 OF THE DUMP (.gsa) THAT Qxb6608735aProg.lean LOADS. Nothing in Lean hashes anything: it is a label: what it is worth is what the hold of that sum in a sandbox is worth. -/
noncomputable def Try.pinned : Pinned := { name := "qxb6608735a", sum := "45bcda84d03deb093f98912722b48c0074c35a87b73119419a634b83eed07427", checked := Try.checked }
namespace Rows
def none {H : Type} : Left H := { results := [], args := [] }

/-- 'zzlaws_pkg_coalition_b1.FnIdsInvertToKeyPositions': WHATEVER THE INPUT: true; the input reads as it did. -/
def fnIdsInvertToKeyPositionsSpec : ChangeSpec := { name := "fnIdsInvertToKeyPositions", fn := fun _ => fun
  | [d1, d2, d3] => { results := [.lit (.bool true)], args := [d1, d2, d3] }
  | _ => none }
def fnIdsInvertToKeyPositionsRow : OpenClaim := { program := "qxb6608735a", sum := "45bcda84d03deb093f98912722b48c0074c35a87b73119419a634b83eed07427", func := "example.com/domains-in-unison/domains-in-unison/zzlaws_pkg_coalition_b1.FnIdsInvertToKeyPositions", spec := "fnIdsInvertToKeyPositions", plainKeys := false, apart := false }
def FnIdsInvertToKeyPositionsSaid : Prop := fnIdsInvertToKeyPositionsRow.holds Try.pinned (OpenSpec.ofChange fnIdsInvertToKeyPositionsSpec)

/-- ITS FALSE NEIGHBOUR: 'it returns false'. Refute it at one input. -/
def fnIdsInvertToKeyPositionsWrong : ChangeSpec := { name := "fnIdsInvertToKeyPositions", fn := fun _ => fun
  | [d1, d2, d3] => { results := [.lit (.bool false)], args := [d1, d2, d3] }
  | _ => none }
def FnIdsInvertToKeyPositionsWrongFalsely : Prop := fnIdsInvertToKeyPositionsRow.holds Try.pinned (OpenSpec.ofChange fnIdsInvertToKeyPositionsWrong)

/-- 'zzlaws_pkg_coalition_b1.FnIdsIgnoreRoundAndListAllIDs': WHATEVER THE INPUT: true; the input reads as it did. -/
def fnIdsIgnoreRoundAndListAllIDsSpec : ChangeSpec := { name := "fnIdsIgnoreRoundAndListAllIDs", fn := fun _ => fun
  | [d1, d2, d3] => { results := [.lit (.bool true)], args := [d1, d2, d3] }
  | _ => none }
def fnIdsIgnoreRoundAndListAllIDsRow : OpenClaim := { program := "qxb6608735a", sum := "45bcda84d03deb093f98912722b48c0074c35a87b73119419a634b83eed07427", func := "example.com/domains-in-unison/domains-in-unison/zzlaws_pkg_coalition_b1.FnIdsIgnoreRoundAndListAllIDs", spec := "fnIdsIgnoreRoundAndListAllIDs", plainKeys := false, apart := false }
def FnIdsIgnoreRoundAndListAllIDsSaid : Prop := fnIdsIgnoreRoundAndListAllIDsRow.holds Try.pinned (OpenSpec.ofChange fnIdsIgnoreRoundAndListAllIDsSpec)

/-- ITS FALSE NEIGHBOUR: 'it returns false'. Refute it at one input. -/
def fnIdsIgnoreRoundAndListAllIDsWrong : ChangeSpec := { name := "fnIdsIgnoreRoundAndListAllIDs", fn := fun _ => fun
  | [d1, d2, d3] => { results := [.lit (.bool false)], args := [d1, d2, d3] }
  | _ => none }
def FnIdsIgnoreRoundAndListAllIDsWrongFalsely : Prop := fnIdsIgnoreRoundAndListAllIDsRow.holds Try.pinned (OpenSpec.ofChange fnIdsIgnoreRoundAndListAllIDsWrong)

/-- 'zzlaws_pkg_coalition_b1.FnConditionChainIsUnionOfHeldChains': WHATEVER THE INPUT: true; the input reads as it did. -/
def fnConditionChainIsUnionOfHeldChainsSpec : ChangeSpec := { name := "fnConditionChainIsUnionOfHeldChains", fn := fun _ => fun
  | [d1, d2, d3, d4, d5, d6, d7, d8] => { results := [.lit (.bool true)], args := [d1, d2, d3, d4, d5, d6, d7, d8] }
  | _ => none }
def fnConditionChainIsUnionOfHeldChainsRow : OpenClaim := { program := "qxb6608735a", sum := "45bcda84d03deb093f98912722b48c0074c35a87b73119419a634b83eed07427", func := "example.com/domains-in-unison/domains-in-unison/zzlaws_pkg_coalition_b1.FnConditionChainIsUnionOfHeldChains", spec := "fnConditionChainIsUnionOfHeldChains", unfollowed := true, recurses := true, plainKeys := false, apart := false }
def FnConditionChainIsUnionOfHeldChainsSaid : Prop := fnConditionChainIsUnionOfHeldChainsRow.holds Try.pinned (OpenSpec.ofChange fnConditionChainIsUnionOfHeldChainsSpec)

/-- ITS FALSE NEIGHBOUR: 'it returns false'. Refute it at one input. -/
def fnConditionChainIsUnionOfHeldChainsWrong : ChangeSpec := { name := "fnConditionChainIsUnionOfHeldChains", fn := fun _ => fun
  | [d1, d2, d3, d4, d5, d6, d7, d8] => { results := [.lit (.bool false)], args := [d1, d2, d3, d4, d5, d6, d7, d8] }
  | _ => none }
def FnConditionChainIsUnionOfHeldChainsWrongFalsely : Prop := fnConditionChainIsUnionOfHeldChainsRow.holds Try.pinned (OpenSpec.ofChange fnConditionChainIsUnionOfHeldChainsWrong)

/-- 'zzlaws_pkg_coalition_b1.FnConditionChainCutAndNamePathAgree': WHATEVER THE INPUT: true; the input reads as it did. -/
def fnConditionChainCutAndNamePathAgreeSpec : ChangeSpec := { name := "fnConditionChainCutAndNamePathAgree", fn := fun _ => fun
  | [d1, d2, d3, d4, d5, d6, d7, d8, d9] => { results := [.lit (.bool true)], args := [d1, d2, d3, d4, d5, d6, d7, d8, d9] }
  | _ => none }
def fnConditionChainCutAndNamePathAgreeRow : OpenClaim := { program := "qxb6608735a", sum := "45bcda84d03deb093f98912722b48c0074c35a87b73119419a634b83eed07427", func := "example.com/domains-in-unison/domains-in-unison/zzlaws_pkg_coalition_b1.FnConditionChainCutAndNamePathAgree", spec := "fnConditionChainCutAndNamePathAgree", unfollowed := true, recurses := true, plainKeys := false, apart := false }
def FnConditionChainCutAndNamePathAgreeSaid : Prop := fnConditionChainCutAndNamePathAgreeRow.holds Try.pinned (OpenSpec.ofChange fnConditionChainCutAndNamePathAgreeSpec)

/-- ITS FALSE NEIGHBOUR: 'it returns false'. Refute it at one input. -/
def fnConditionChainCutAndNamePathAgreeWrong : ChangeSpec := { name := "fnConditionChainCutAndNamePathAgree", fn := fun _ => fun
  | [d1, d2, d3, d4, d5, d6, d7, d8, d9] => { results := [.lit (.bool false)], args := [d1, d2, d3, d4, d5, d6, d7, d8, d9] }
  | _ => none }
def FnConditionChainCutAndNamePathAgreeWrongFalsely : Prop := fnConditionChainCutAndNamePathAgreeRow.holds Try.pinned (OpenSpec.ofChange fnConditionChainCutAndNamePathAgreeWrong)

/-- 'zzlaws_pkg_coalition_b1.FnViaConditionNamesUnionAndNamePathAgrees': WHATEVER THE INPUT: true; the input reads as it did. -/
def fnViaConditionNamesUnionAndNamePathAgreesSpec : ChangeSpec := { name := "fnViaConditionNamesUnionAndNamePathAgrees", fn := fun _ => fun
  | [d1, d2, d3, d4, d5, d6, d7, d8] => { results := [.lit (.bool true)], args := [d1, d2, d3, d4, d5, d6, d7, d8] }
  | _ => none }
def fnViaConditionNamesUnionAndNamePathAgreesRow : OpenClaim := { program := "qxb6608735a", sum := "45bcda84d03deb093f98912722b48c0074c35a87b73119419a634b83eed07427", func := "example.com/domains-in-unison/domains-in-unison/zzlaws_pkg_coalition_b1.FnViaConditionNamesUnionAndNamePathAgrees", spec := "fnViaConditionNamesUnionAndNamePathAgrees", unfollowed := true, recurses := true, plainKeys := false, apart := false }
def FnViaConditionNamesUnionAndNamePathAgreesSaid : Prop := fnViaConditionNamesUnionAndNamePathAgreesRow.holds Try.pinned (OpenSpec.ofChange fnViaConditionNamesUnionAndNamePathAgreesSpec)

/-- ITS FALSE NEIGHBOUR: 'it returns false'. Refute it at one input. -/
def fnViaConditionNamesUnionAndNamePathAgreesWrong : ChangeSpec := { name := "fnViaConditionNamesUnionAndNamePathAgrees", fn := fun _ => fun
  | [d1, d2, d3, d4, d5, d6, d7, d8] => { results := [.lit (.bool false)], args := [d1, d2, d3, d4, d5, d6, d7, d8] }
  | _ => none }
def FnViaConditionNamesUnionAndNamePathAgreesWrongFalsely : Prop := fnViaConditionNamesUnionAndNamePathAgreesRow.holds Try.pinned (OpenSpec.ofChange fnViaConditionNamesUnionAndNamePathAgreesWrong)

/-- 'zzlaws_pkg_coalition_b1.FnViaConditionOrderAndRepeatFree': WHATEVER THE INPUT: true; the input reads as it did. -/
def fnViaConditionOrderAndRepeatFreeSpec : ChangeSpec := { name := "fnViaConditionOrderAndRepeatFree", fn := fun _ => fun
  | [d1, d2, d3, d4, d5, d6, d7, d8] => { results := [.lit (.bool true)], args := [d1, d2, d3, d4, d5, d6, d7, d8] }
  | _ => none }
def fnViaConditionOrderAndRepeatFreeRow : OpenClaim := { program := "qxb6608735a", sum := "45bcda84d03deb093f98912722b48c0074c35a87b73119419a634b83eed07427", func := "example.com/domains-in-unison/domains-in-unison/zzlaws_pkg_coalition_b1.FnViaConditionOrderAndRepeatFree", spec := "fnViaConditionOrderAndRepeatFree", unfollowed := true, recurses := true, plainKeys := false, apart := false }
def FnViaConditionOrderAndRepeatFreeSaid : Prop := fnViaConditionOrderAndRepeatFreeRow.holds Try.pinned (OpenSpec.ofChange fnViaConditionOrderAndRepeatFreeSpec)

/-- ITS FALSE NEIGHBOUR: 'it returns false'. Refute it at one input. -/
def fnViaConditionOrderAndRepeatFreeWrong : ChangeSpec := { name := "fnViaConditionOrderAndRepeatFree", fn := fun _ => fun
  | [d1, d2, d3, d4, d5, d6, d7, d8] => { results := [.lit (.bool false)], args := [d1, d2, d3, d4, d5, d6, d7, d8] }
  | _ => none }
def FnViaConditionOrderAndRepeatFreeWrongFalsely : Prop := fnViaConditionOrderAndRepeatFreeRow.holds Try.pinned (OpenSpec.ofChange fnViaConditionOrderAndRepeatFreeWrong)

/-- 'zzlaws_pkg_coalition_b1.FnKeptHoldingAnswersByName': WHATEVER THE INPUT: true; the input reads as it did. -/
def fnKeptHoldingAnswersByNameSpec : ChangeSpec := { name := "fnKeptHoldingAnswersByName", fn := fun _ => fun
  | [d1, d2, d3, d4, d5, d6, d7, d8] => { results := [.lit (.bool true)], args := [d1, d2, d3, d4, d5, d6, d7, d8] }
  | _ => none }
def fnKeptHoldingAnswersByNameRow : OpenClaim := { program := "qxb6608735a", sum := "45bcda84d03deb093f98912722b48c0074c35a87b73119419a634b83eed07427", func := "example.com/domains-in-unison/domains-in-unison/zzlaws_pkg_coalition_b1.FnKeptHoldingAnswersByName", spec := "fnKeptHoldingAnswersByName", unfollowed := true, recurses := true, plainKeys := false, apart := false }
def FnKeptHoldingAnswersByNameSaid : Prop := fnKeptHoldingAnswersByNameRow.holds Try.pinned (OpenSpec.ofChange fnKeptHoldingAnswersByNameSpec)

/-- ITS FALSE NEIGHBOUR: 'it returns false'. Refute it at one input. -/
def fnKeptHoldingAnswersByNameWrong : ChangeSpec := { name := "fnKeptHoldingAnswersByName", fn := fun _ => fun
  | [d1, d2, d3, d4, d5, d6, d7, d8] => { results := [.lit (.bool false)], args := [d1, d2, d3, d4, d5, d6, d7, d8] }
  | _ => none }
def FnKeptHoldingAnswersByNameWrongFalsely : Prop := fnKeptHoldingAnswersByNameRow.holds Try.pinned (OpenSpec.ofChange fnKeptHoldingAnswersByNameWrong)

/-- 'zzlaws_pkg_coalition_b1.FnKeptHoldingHoldsExactlyItsAtoms': WHATEVER THE INPUT: true; the input reads as it did. -/
def fnKeptHoldingHoldsExactlyItsAtomsSpec : ChangeSpec := { name := "fnKeptHoldingHoldsExactlyItsAtoms", fn := fun _ => fun
  | [d1, d2, d3, d4, d5, d6, d7] => { results := [.lit (.bool true)], args := [d1, d2, d3, d4, d5, d6, d7] }
  | _ => none }
def fnKeptHoldingHoldsExactlyItsAtomsRow : OpenClaim := { program := "qxb6608735a", sum := "45bcda84d03deb093f98912722b48c0074c35a87b73119419a634b83eed07427", func := "example.com/domains-in-unison/domains-in-unison/zzlaws_pkg_coalition_b1.FnKeptHoldingHoldsExactlyItsAtoms", spec := "fnKeptHoldingHoldsExactlyItsAtoms", unfollowed := true, recurses := true, plainKeys := false, apart := false }
def FnKeptHoldingHoldsExactlyItsAtomsSaid : Prop := fnKeptHoldingHoldsExactlyItsAtomsRow.holds Try.pinned (OpenSpec.ofChange fnKeptHoldingHoldsExactlyItsAtomsSpec)

/-- ITS FALSE NEIGHBOUR: 'it returns false'. Refute it at one input. -/
def fnKeptHoldingHoldsExactlyItsAtomsWrong : ChangeSpec := { name := "fnKeptHoldingHoldsExactlyItsAtoms", fn := fun _ => fun
  | [d1, d2, d3, d4, d5, d6, d7] => { results := [.lit (.bool false)], args := [d1, d2, d3, d4, d5, d6, d7] }
  | _ => none }
def FnKeptHoldingHoldsExactlyItsAtomsWrongFalsely : Prop := fnKeptHoldingHoldsExactlyItsAtomsRow.holds Try.pinned (OpenSpec.ofChange fnKeptHoldingHoldsExactlyItsAtomsWrong)

end Rows
end Go.Proofs.Qxb6608735a
