/-
  No cell of these rows narrows 'for every input' (looked for: loops, veiled, ifaces, maps, wideKeys, modest, calm, conditions, laid).
  DERIVED. THE GIVEN ROWS OF THIS SEAT. 2 by the template 'for every input the law returns true; each argument reads behind the call as it read before'; 0 by the template 'total and deterministic' (their statements: Qxb6613409aTotals.lean).
  GIVEN WITH THE SEED: the statements are not yours to turn. If you find one false, say at which input.
  Laid BY PROGRAM, IN A SANDBOX (cutbox-rows.mjs): the forced cells as the released guide's own fill.sh prints them over the translation 715cbfc031dc413b… (all of the seat's roots in one cut). By AI agents, Wed Nov 11 2026. No macro, syntax, notation, axiom, sorry.
-/
import Derived.Test.Qxb6613409aChecked
import GoSem.Claim
import GoSem.ClaimJoined
import GoSem.ClaimMapViews
import Derived.JoinedTies
import Derived.KernelRfl
namespace Go.Proofs.Qxb6613409a
/- THE CELL 'sum', in the pinned program and in every row, IS THE sha256 OF THE DUMP (.gsa) THAT Qxb6613409aProg.lean LOADS. Nothing in Lean hashes anything: it is a label: what it is worth is what the hold of that sum in a sandbox is worth. -/
noncomputable def Try.pinned : Pinned := { name := "qxb6613409a", sum := "715cbfc031dc413b424fac17dc2d481fbaf5f88b0bd8f3241ee5396c86239fc3", checked := Try.checked }
namespace Rows
def none {H : Type} : Left H := { results := [], args := [] }

/-- 'zzlaws_pkg_plan_b1.FnMonthYearIsWholeYearsTowardZero': WHATEVER THE INPUT: true; the input reads as it did. -/
def fnMonthYearIsWholeYearsTowardZeroSpec : ChangeSpec := { name := "fnMonthYearIsWholeYearsTowardZero", fn := fun _ => fun
  | [d] => { results := [.lit (.bool true)], args := [d] }
  | _ => none }
def fnMonthYearIsWholeYearsTowardZeroRow : OpenClaim := { program := "qxb6613409a", sum := "715cbfc031dc413b424fac17dc2d481fbaf5f88b0bd8f3241ee5396c86239fc3", func := "example.com/vestwright/vestwright/zzlaws_pkg_plan_b1.FnMonthYearIsWholeYearsTowardZero", spec := "fnMonthYearIsWholeYearsTowardZero", apart := false }
def FnMonthYearIsWholeYearsTowardZeroSaid : Prop := fnMonthYearIsWholeYearsTowardZeroRow.holds Try.pinned (OpenSpec.ofChange fnMonthYearIsWholeYearsTowardZeroSpec)

/-- ITS FALSE NEIGHBOUR: 'it returns false'. Refute it at one input. -/
def fnMonthYearIsWholeYearsTowardZeroWrong : ChangeSpec := { name := "fnMonthYearIsWholeYearsTowardZero", fn := fun _ => fun
  | [d] => { results := [.lit (.bool false)], args := [d] }
  | _ => none }
def FnMonthYearIsWholeYearsTowardZeroWrongFalsely : Prop := fnMonthYearIsWholeYearsTowardZeroRow.holds Try.pinned (OpenSpec.ofChange fnMonthYearIsWholeYearsTowardZeroWrong)

/-- 'zzlaws_pkg_plan_b1.FnMonthYearCountsYearTurnsBetween': WHATEVER THE INPUT: true; the input reads as it did. -/
def fnMonthYearCountsYearTurnsBetweenSpec : ChangeSpec := { name := "fnMonthYearCountsYearTurnsBetween", fn := fun _ => fun
  | [d1, d2] => { results := [.lit (.bool true)], args := [d1, d2] }
  | _ => none }
def fnMonthYearCountsYearTurnsBetweenRow : OpenClaim := { program := "qxb6613409a", sum := "715cbfc031dc413b424fac17dc2d481fbaf5f88b0bd8f3241ee5396c86239fc3", func := "example.com/vestwright/vestwright/zzlaws_pkg_plan_b1.FnMonthYearCountsYearTurnsBetween", spec := "fnMonthYearCountsYearTurnsBetween", apart := false }
def FnMonthYearCountsYearTurnsBetweenSaid : Prop := fnMonthYearCountsYearTurnsBetweenRow.holds Try.pinned (OpenSpec.ofChange fnMonthYearCountsYearTurnsBetweenSpec)

/-- ITS FALSE NEIGHBOUR: 'it returns false'. Refute it at one input. -/
def fnMonthYearCountsYearTurnsBetweenWrong : ChangeSpec := { name := "fnMonthYearCountsYearTurnsBetween", fn := fun _ => fun
  | [d1, d2] => { results := [.lit (.bool false)], args := [d1, d2] }
  | _ => none }
def FnMonthYearCountsYearTurnsBetweenWrongFalsely : Prop := fnMonthYearCountsYearTurnsBetweenRow.holds Try.pinned (OpenSpec.ofChange fnMonthYearCountsYearTurnsBetweenWrong)

end Rows
end Go.Proofs.Qxb6613409a
