/-
  No cell of these rows narrows 'for every input' (looked for: loops, veiled, ifaces, maps, wideKeys, modest, calm, conditions, laid).
  DERIVED. THE GIVEN ROWS OF THIS SEAT. 5 by the template 'for every input the law returns true; each argument reads behind the call as it read before'; 0 by the template 'total and deterministic' (their statements: Qxb6608665aTotals.lean).
  GIVEN WITH THE SEED: the statements are not yours to turn. If you find one false, say at which input.
  Laid BY PROGRAM, IN A SANDBOX (cutbox-rows.mjs): the forced cells as the released guide's own fill.sh prints them over the translation f3bb4d28f0ae9053… (all of the seat's roots in one cut). By AI agents, Wed Nov 11 2026. No macro, syntax, notation, axiom, sorry.
-/
import Derived.Test.Qxb6608665aChecked
import GoSem.Claim
import GoSem.ClaimJoined
import GoSem.ClaimMapViews
import Derived.JoinedTies
import Derived.KernelRfl
namespace Go.Proofs.Qxb6608665a
/- THE CELL 'sum', in the pinned program and in every row, IS THE sha256 OF THE DUMP (.gsa) THAT Qxb6608665aProg.lean LOADS. Nothing in Lean hashes anything: it is a label: what it is worth is what the hold of that sum in a sandbox is worth. -/
noncomputable def Try.pinned : Pinned := { name := "qxb6608665a", sum := "f3bb4d28f0ae90534cad78b7899e881c2a22e9a542897d7f090a1c1f6a29a8cb", checked := Try.checked }
namespace Rows
def none {H : Type} : Left H := { results := [], args := [] }

/-- 'zzlaws_internal_strictjson_b1.FnLongerThanCountsElements': WHATEVER THE INPUT: true; the input reads as it did. -/
def fnLongerThanCountsElementsSpec : ChangeSpec := { name := "fnLongerThanCountsElements", fn := fun _ => fun
  | [d1, d2] => { results := [.lit (.bool true)], args := [d1, d2] }
  | _ => none }
def fnLongerThanCountsElementsRow : OpenClaim := { program := "qxb6608665a", sum := "f3bb4d28f0ae90534cad78b7899e881c2a22e9a542897d7f090a1c1f6a29a8cb", func := "example.com/anamnex/anamnex/zzlaws_internal_strictjson_b1.FnLongerThanCountsElements", spec := "fnLongerThanCountsElements", inPlace := ["internal/bytealg.Count", "internal/bytealg.IndexByte", "internal/bytealg.Index"], recurses := true, named := ["internal/bytealg.MaxLen"], apart := false }
def FnLongerThanCountsElementsSaid : Prop := fnLongerThanCountsElementsRow.holds Try.pinned (OpenSpec.ofChange fnLongerThanCountsElementsSpec)

/-- ITS FALSE NEIGHBOUR: 'it returns false'. Refute it at one input. -/
def fnLongerThanCountsElementsWrong : ChangeSpec := { name := "fnLongerThanCountsElements", fn := fun _ => fun
  | [d1, d2] => { results := [.lit (.bool false)], args := [d1, d2] }
  | _ => none }
def FnLongerThanCountsElementsWrongFalsely : Prop := fnLongerThanCountsElementsRow.holds Try.pinned (OpenSpec.ofChange fnLongerThanCountsElementsWrong)

/-- 'zzlaws_internal_strictjson_b1.FnLongerThanInsertOne': WHATEVER THE INPUT: true; the input reads as it did. -/
def fnLongerThanInsertOneSpec : ChangeSpec := { name := "fnLongerThanInsertOne", fn := fun _ => fun
  | [d1, d2, d3, d4] => { results := [.lit (.bool true)], args := [d1, d2, d3, d4] }
  | _ => none }
def fnLongerThanInsertOneRow : OpenClaim := { program := "qxb6608665a", sum := "f3bb4d28f0ae90534cad78b7899e881c2a22e9a542897d7f090a1c1f6a29a8cb", func := "example.com/anamnex/anamnex/zzlaws_internal_strictjson_b1.FnLongerThanInsertOne", spec := "fnLongerThanInsertOne", inPlace := ["internal/bytealg.Count", "internal/bytealg.IndexByte", "internal/bytealg.Index"], recurses := true, named := ["internal/bytealg.MaxLen"], apart := false }
def FnLongerThanInsertOneSaid : Prop := fnLongerThanInsertOneRow.holds Try.pinned (OpenSpec.ofChange fnLongerThanInsertOneSpec)

/-- ITS FALSE NEIGHBOUR: 'it returns false'. Refute it at one input. -/
def fnLongerThanInsertOneWrong : ChangeSpec := { name := "fnLongerThanInsertOne", fn := fun _ => fun
  | [d1, d2, d3, d4] => { results := [.lit (.bool false)], args := [d1, d2, d3, d4] }
  | _ => none }
def FnLongerThanInsertOneWrongFalsely : Prop := fnLongerThanInsertOneRow.holds Try.pinned (OpenSpec.ofChange fnLongerThanInsertOneWrong)

/-- 'zzlaws_internal_strictjson_b1.FnEndsLiteralFollowsGrammar': WHATEVER THE INPUT: true; the input reads as it did. -/
def fnEndsLiteralFollowsGrammarSpec : ChangeSpec := { name := "fnEndsLiteralFollowsGrammar", fn := fun _ => fun
  | [d] => { results := [.lit (.bool true)], args := [d] }
  | _ => none }
def fnEndsLiteralFollowsGrammarRow : OpenClaim := { program := "qxb6608665a", sum := "f3bb4d28f0ae90534cad78b7899e881c2a22e9a542897d7f090a1c1f6a29a8cb", func := "example.com/anamnex/anamnex/zzlaws_internal_strictjson_b1.FnEndsLiteralFollowsGrammar", spec := "fnEndsLiteralFollowsGrammar", recurses := true, apart := false }
def FnEndsLiteralFollowsGrammarSaid : Prop := fnEndsLiteralFollowsGrammarRow.holds Try.pinned (OpenSpec.ofChange fnEndsLiteralFollowsGrammarSpec)

/-- ITS FALSE NEIGHBOUR: 'it returns false'. Refute it at one input. -/
def fnEndsLiteralFollowsGrammarWrong : ChangeSpec := { name := "fnEndsLiteralFollowsGrammar", fn := fun _ => fun
  | [d] => { results := [.lit (.bool false)], args := [d] }
  | _ => none }
def FnEndsLiteralFollowsGrammarWrongFalsely : Prop := fnEndsLiteralFollowsGrammarRow.holds Try.pinned (OpenSpec.ofChange fnEndsLiteralFollowsGrammarWrong)

/-- 'zzlaws_internal_strictjson_b1.FnEndsLiteralEndsReaderValue': WHATEVER THE INPUT: true; the input reads as it did. -/
def fnEndsLiteralEndsReaderValueSpec : ChangeSpec := { name := "fnEndsLiteralEndsReaderValue", fn := fun _ => fun
  | [d1, d2] => { results := [.lit (.bool true)], args := [d1, d2] }
  | _ => none }
def fnEndsLiteralEndsReaderValueRow : OpenClaim := { program := "qxb6608665a", sum := "f3bb4d28f0ae90534cad78b7899e881c2a22e9a542897d7f090a1c1f6a29a8cb", func := "example.com/anamnex/anamnex/zzlaws_internal_strictjson_b1.FnEndsLiteralEndsReaderValue", spec := "fnEndsLiteralEndsReaderValue", recurses := true, apart := false }
def FnEndsLiteralEndsReaderValueSaid : Prop := fnEndsLiteralEndsReaderValueRow.holds Try.pinned (OpenSpec.ofChange fnEndsLiteralEndsReaderValueSpec)

/-- ITS FALSE NEIGHBOUR: 'it returns false'. Refute it at one input. -/
def fnEndsLiteralEndsReaderValueWrong : ChangeSpec := { name := "fnEndsLiteralEndsReaderValue", fn := fun _ => fun
  | [d1, d2] => { results := [.lit (.bool false)], args := [d1, d2] }
  | _ => none }
def FnEndsLiteralEndsReaderValueWrongFalsely : Prop := fnEndsLiteralEndsReaderValueRow.holds Try.pinned (OpenSpec.ofChange fnEndsLiteralEndsReaderValueWrong)

/-- 'zzlaws_internal_strictjson_b1.FnMoreSkipsAnyWhiteSpace': WHATEVER THE INPUT: true; the input reads as it did. -/
def fnMoreSkipsAnyWhiteSpaceSpec : ChangeSpec := { name := "fnMoreSkipsAnyWhiteSpace", fn := fun _ => fun
  | [d1, d2, d3] => { results := [.lit (.bool true)], args := [d1, d2, d3] }
  | _ => none }
def fnMoreSkipsAnyWhiteSpaceRow : OpenClaim := { program := "qxb6608665a", sum := "f3bb4d28f0ae90534cad78b7899e881c2a22e9a542897d7f090a1c1f6a29a8cb", func := "example.com/anamnex/anamnex/zzlaws_internal_strictjson_b1.FnMoreSkipsAnyWhiteSpace", spec := "fnMoreSkipsAnyWhiteSpace", apart := false }
def FnMoreSkipsAnyWhiteSpaceSaid : Prop := fnMoreSkipsAnyWhiteSpaceRow.holds Try.pinned (OpenSpec.ofChange fnMoreSkipsAnyWhiteSpaceSpec)

/-- ITS FALSE NEIGHBOUR: 'it returns false'. Refute it at one input. -/
def fnMoreSkipsAnyWhiteSpaceWrong : ChangeSpec := { name := "fnMoreSkipsAnyWhiteSpace", fn := fun _ => fun
  | [d1, d2, d3] => { results := [.lit (.bool false)], args := [d1, d2, d3] }
  | _ => none }
def FnMoreSkipsAnyWhiteSpaceWrongFalsely : Prop := fnMoreSkipsAnyWhiteSpaceRow.holds Try.pinned (OpenSpec.ofChange fnMoreSkipsAnyWhiteSpaceWrong)

end Rows
end Go.Proofs.Qxb6608665a
