/-
  No cell of these rows narrows 'for every input' (looked for: loops, veiled, ifaces, maps, wideKeys, modest, calm, conditions, laid).
  DERIVED. THE GIVEN ROWS OF THIS SEAT. 2 by the template 'for every input the law returns true; each argument reads behind the call as it read before'; 0 by the template 'total and deterministic' (their statements: Qxb6632296aTotals.lean).
  GIVEN WITH THE SEED: the statements are not yours to turn. If you find one false, say at which input.
  Laid BY PROGRAM, IN A SANDBOX (cutbox-rows.mjs): the forced cells as the released guide's own fill.sh prints them over the translation bc28f9174f1c9565… (all of the seat's roots in one cut). By AI agents, Wed Nov 11 2026. No macro, syntax, notation, axiom, sorry.
-/
import Derived.Test.Qxb6632296aChecked
import GoSem.Claim
import GoSem.ClaimJoined
import GoSem.ClaimMapViews
import Derived.JoinedTies
import Derived.KernelRfl
namespace Go.Proofs.Qxb6632296a
/- THE CELL 'sum', in the pinned program and in every row, IS THE sha256 OF THE DUMP (.gsa) THAT Qxb6632296aProg.lean LOADS. Nothing in Lean hashes anything: it is a label: what it is worth is what the hold of that sum in a sandbox is worth. -/
noncomputable def Try.pinned : Pinned := { name := "qxb6632296a", sum := "bc28f9174f1c95655843284c1dd6d66d47eb720cc80ad52a793d70f99d762519", checked := Try.checked }
namespace Rows
def none {H : Type} : Left H := { results := [], args := [] }

/-- 'zzlaws_date_b1.FnFirstDayMonthLengthAndWeekday': WHATEVER THE INPUT: true; the input reads as it did. -/
def fnFirstDayMonthLengthAndWeekdaySpec : ChangeSpec := { name := "fnFirstDayMonthLengthAndWeekday", fn := fun _ => fun
  | [d1, d2] => { results := [.lit (.bool true)], args := [d1, d2] }
  | _ => none }
def fnFirstDayMonthLengthAndWeekdayRow : OpenClaim := { program := "qxb6632296a", sum := "bc28f9174f1c95655843284c1dd6d66d47eb720cc80ad52a793d70f99d762519", func := "example.com/vestwright/vestwright/zzlaws_date_b1.FnFirstDayMonthLengthAndWeekday", spec := "fnFirstDayMonthLengthAndWeekday", apart := false }
def FnFirstDayMonthLengthAndWeekdaySaid : Prop := fnFirstDayMonthLengthAndWeekdayRow.holds Try.pinned (OpenSpec.ofChange fnFirstDayMonthLengthAndWeekdaySpec)

/-- ITS FALSE NEIGHBOUR: 'it returns false'. Refute it at one input. -/
def fnFirstDayMonthLengthAndWeekdayWrong : ChangeSpec := { name := "fnFirstDayMonthLengthAndWeekday", fn := fun _ => fun
  | [d1, d2] => { results := [.lit (.bool false)], args := [d1, d2] }
  | _ => none }
def FnFirstDayMonthLengthAndWeekdayWrongFalsely : Prop := fnFirstDayMonthLengthAndWeekdayRow.holds Try.pinned (OpenSpec.ofChange fnFirstDayMonthLengthAndWeekdayWrong)

/-- 'zzlaws_date_b1.FnFirstDayYearStepAndCycle': WHATEVER THE INPUT: true; the input reads as it did. -/
def fnFirstDayYearStepAndCycleSpec : ChangeSpec := { name := "fnFirstDayYearStepAndCycle", fn := fun _ => fun
  | [d1, d2] => { results := [.lit (.bool true)], args := [d1, d2] }
  | _ => none }
def fnFirstDayYearStepAndCycleRow : OpenClaim := { program := "qxb6632296a", sum := "bc28f9174f1c95655843284c1dd6d66d47eb720cc80ad52a793d70f99d762519", func := "example.com/vestwright/vestwright/zzlaws_date_b1.FnFirstDayYearStepAndCycle", spec := "fnFirstDayYearStepAndCycle", apart := false }
def FnFirstDayYearStepAndCycleSaid : Prop := fnFirstDayYearStepAndCycleRow.holds Try.pinned (OpenSpec.ofChange fnFirstDayYearStepAndCycleSpec)

/-- ITS FALSE NEIGHBOUR: 'it returns false'. Refute it at one input. -/
def fnFirstDayYearStepAndCycleWrong : ChangeSpec := { name := "fnFirstDayYearStepAndCycle", fn := fun _ => fun
  | [d1, d2] => { results := [.lit (.bool false)], args := [d1, d2] }
  | _ => none }
def FnFirstDayYearStepAndCycleWrongFalsely : Prop := fnFirstDayYearStepAndCycleRow.holds Try.pinned (OpenSpec.ofChange fnFirstDayYearStepAndCycleWrong)

end Rows
end Go.Proofs.Qxb6632296a
