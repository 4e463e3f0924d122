/-
  No cell of these rows narrows 'for every input' (looked for: loops, veiled, ifaces, maps, wideKeys, modest, calm, conditions, laid).
  DERIVED. THE GIVEN ROWS OF THIS SEAT. 3 by the template 'for every input the law returns true; each argument reads behind the call as it read before'; 0 by the template 'total and deterministic' (their statements: Qxb6608893aTotals.lean).
  GIVEN WITH THE SEED: the statements are not yours to turn. If you find one false, say at which input.
  Laid BY PROGRAM, IN A SANDBOX (cutbox-rows.mjs): the forced cells as the released guide's own fill.sh prints them over the translation d92a2936dca1b00f… (all of the seat's roots in one cut). By AI agents, Wed Nov 11 2026. No macro, syntax, notation, axiom, sorry.
-/
import Derived.Test.Qxb6608893aChecked
import GoSem.Claim
import GoSem.ClaimJoined
import GoSem.ClaimMapViews
import Derived.JoinedTies
import Derived.KernelRfl
namespace Go.Proofs.Qxb6608893a
/- THE CELL 'sum', in the pinned program and in every row, IS THE sha256 OF THE DUMP (.gsa) THAT Qxb6608893aProg.lean LOADS. Nothing in Lean hashes anything: it is a label: what it is worth is what the hold of that sum in a sandbox is worth. -/
noncomputable def Try.pinned : Pinned := { name := "qxb6608893a", sum := "d92a2936dca1b00f8d75367f4eb05b08da9c1220eacf84237401e78f141f4baf", checked := Try.checked }
namespace Rows
def none {H : Type} : Left H := { results := [], args := [] }

/-- 'zzlaws_pkg_execution_b1.FnMillisIsNearestMillisecond': WHATEVER THE INPUT: true; the input reads as it did. -/
def fnMillisIsNearestMillisecondSpec : ChangeSpec := { name := "fnMillisIsNearestMillisecond", fn := fun _ => fun
  | [d] => { results := [.lit (.bool true)], args := [d] }
  | _ => none }
def fnMillisIsNearestMillisecondRow : OpenClaim := { program := "qxb6608893a", sum := "d92a2936dca1b00f8d75367f4eb05b08da9c1220eacf84237401e78f141f4baf", func := "example.com/windlass/windlass/zzlaws_pkg_execution_b1.FnMillisIsNearestMillisecond", spec := "fnMillisIsNearestMillisecond", inPlace := ["math.Float64bits", "math.Float64frombits"], plainKeys := false, apart := false }
def FnMillisIsNearestMillisecondSaid : Prop := fnMillisIsNearestMillisecondRow.holds Try.pinned (OpenSpec.ofChange fnMillisIsNearestMillisecondSpec)

/-- ITS FALSE NEIGHBOUR: 'it returns false'. Refute it at one input. -/
def fnMillisIsNearestMillisecondWrong : ChangeSpec := { name := "fnMillisIsNearestMillisecond", fn := fun _ => fun
  | [d] => { results := [.lit (.bool false)], args := [d] }
  | _ => none }
def FnMillisIsNearestMillisecondWrongFalsely : Prop := fnMillisIsNearestMillisecondRow.holds Try.pinned (OpenSpec.ofChange fnMillisIsNearestMillisecondWrong)

/-- 'zzlaws_pkg_execution_b1.FnMillisOddAndMonotone': WHATEVER THE INPUT: true; the input reads as it did. -/
def fnMillisOddAndMonotoneSpec : ChangeSpec := { name := "fnMillisOddAndMonotone", fn := fun _ => fun
  | [d1, d2] => { results := [.lit (.bool true)], args := [d1, d2] }
  | _ => none }
def fnMillisOddAndMonotoneRow : OpenClaim := { program := "qxb6608893a", sum := "d92a2936dca1b00f8d75367f4eb05b08da9c1220eacf84237401e78f141f4baf", func := "example.com/windlass/windlass/zzlaws_pkg_execution_b1.FnMillisOddAndMonotone", spec := "fnMillisOddAndMonotone", inPlace := ["math.Float64bits", "math.Float64frombits"], plainKeys := false, apart := false }
def FnMillisOddAndMonotoneSaid : Prop := fnMillisOddAndMonotoneRow.holds Try.pinned (OpenSpec.ofChange fnMillisOddAndMonotoneSpec)

/-- ITS FALSE NEIGHBOUR: 'it returns false'. Refute it at one input. -/
def fnMillisOddAndMonotoneWrong : ChangeSpec := { name := "fnMillisOddAndMonotone", fn := fun _ => fun
  | [d1, d2] => { results := [.lit (.bool false)], args := [d1, d2] }
  | _ => none }
def FnMillisOddAndMonotoneWrongFalsely : Prop := fnMillisOddAndMonotoneRow.holds Try.pinned (OpenSpec.ofChange fnMillisOddAndMonotoneWrong)

/-- 'zzlaws_pkg_execution_b1.FnTimersFirstIsTheEarliest': WHATEVER THE INPUT: true; the input reads as it did. -/
def fnTimersFirstIsTheEarliestSpec : ChangeSpec := { name := "fnTimersFirstIsTheEarliest", fn := fun _ => fun
  | [d1, d2, d3] => { results := [.lit (.bool true)], args := [d1, d2, d3] }
  | _ => none }
def fnTimersFirstIsTheEarliestRow : OpenClaim := { program := "qxb6608893a", sum := "d92a2936dca1b00f8d75367f4eb05b08da9c1220eacf84237401e78f141f4baf", func := "example.com/windlass/windlass/zzlaws_pkg_execution_b1.FnTimersFirstIsTheEarliest", spec := "fnTimersFirstIsTheEarliest", plainKeys := false, apart := false }
def FnTimersFirstIsTheEarliestSaid : Prop := fnTimersFirstIsTheEarliestRow.holds Try.pinned (OpenSpec.ofChange fnTimersFirstIsTheEarliestSpec)

/-- ITS FALSE NEIGHBOUR: 'it returns false'. Refute it at one input. -/
def fnTimersFirstIsTheEarliestWrong : ChangeSpec := { name := "fnTimersFirstIsTheEarliest", fn := fun _ => fun
  | [d1, d2, d3] => { results := [.lit (.bool false)], args := [d1, d2, d3] }
  | _ => none }
def FnTimersFirstIsTheEarliestWrongFalsely : Prop := fnTimersFirstIsTheEarliestRow.holds Try.pinned (OpenSpec.ofChange fnTimersFirstIsTheEarliestWrong)

end Rows
end Go.Proofs.Qxb6608893a
