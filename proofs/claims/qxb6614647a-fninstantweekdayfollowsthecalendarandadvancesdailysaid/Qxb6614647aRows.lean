/-
  No cell of these rows narrows 'for every input' (looked for: loops, veiled, ifaces, maps, wideKeys, modest, calm, conditions, laid).
  DERIVED. THE GIVEN ROWS OF THIS SEAT. 2 by the template 'for every input the law returns true; each argument reads behind the call as it read before'; 0 by the template 'total and deterministic' (their statements: Qxb6614647aTotals.lean).
  GIVEN WITH THE SEED: the statements are not yours to turn. If you find one false, say at which input.
  Laid BY PROGRAM, IN A SANDBOX (cutbox-rows.mjs): the forced cells as the released guide's own fill.sh prints them over the translation 5705157d85c3fb8c… (all of the seat's roots in one cut). By AI agents, Wed Nov 11 2026. No macro, syntax, notation, axiom, sorry.
-/
import Derived.Test.Qxb6614647aChecked
import GoSem.Claim
import GoSem.ClaimJoined
import GoSem.ClaimMapViews
import Derived.JoinedTies
import Derived.KernelRfl
namespace Go.Proofs.Qxb6614647a
/- THE CELL 'sum', in the pinned program and in every row, IS THE sha256 OF THE DUMP (.gsa) THAT Qxb6614647aProg.lean LOADS. Nothing in Lean hashes anything: it is a label: what it is worth is what the hold of that sum in a sandbox is worth. -/
noncomputable def Try.pinned : Pinned := { name := "qxb6614647a", sum := "5705157d85c3fb8c7f8c5f4018467cb09bc883b12b9a743e585bc844d157bd25", checked := Try.checked }
namespace Rows
def none {H : Type} : Left H := { results := [], args := [] }

/-- 'zzlaws_root_b1.FnInstantDayIsWholeDaysAndStepsByOne': WHATEVER THE INPUT: true; the input reads as it did. -/
def fnInstantDayIsWholeDaysAndStepsByOneSpec : ChangeSpec := { name := "fnInstantDayIsWholeDaysAndStepsByOne", fn := fun _ => fun
  | [d] => { results := [.lit (.bool true)], args := [d] }
  | _ => none }
def fnInstantDayIsWholeDaysAndStepsByOneRow : OpenClaim := { program := "qxb6614647a", sum := "5705157d85c3fb8c7f8c5f4018467cb09bc883b12b9a743e585bc844d157bd25", func := "example.com/chronokey/chronokey/zzlaws_root_b1.FnInstantDayIsWholeDaysAndStepsByOne", spec := "fnInstantDayIsWholeDaysAndStepsByOne", apart := false }
def FnInstantDayIsWholeDaysAndStepsByOneSaid : Prop := fnInstantDayIsWholeDaysAndStepsByOneRow.holds Try.pinned (OpenSpec.ofChange fnInstantDayIsWholeDaysAndStepsByOneSpec)

/-- ITS FALSE NEIGHBOUR: 'it returns false'. Refute it at one input. -/
def fnInstantDayIsWholeDaysAndStepsByOneWrong : ChangeSpec := { name := "fnInstantDayIsWholeDaysAndStepsByOne", fn := fun _ => fun
  | [d] => { results := [.lit (.bool false)], args := [d] }
  | _ => none }
def FnInstantDayIsWholeDaysAndStepsByOneWrongFalsely : Prop := fnInstantDayIsWholeDaysAndStepsByOneRow.holds Try.pinned (OpenSpec.ofChange fnInstantDayIsWholeDaysAndStepsByOneWrong)

/-- 'zzlaws_root_b1.FnInstantWeekdayFollowsTheCalendarAndAdvancesDaily': WHATEVER THE INPUT: true; the input reads as it did. -/
def fnInstantWeekdayFollowsTheCalendarAndAdvancesDailySpec : ChangeSpec := { name := "fnInstantWeekdayFollowsTheCalendarAndAdvancesDaily", fn := fun _ => fun
  | [d] => { results := [.lit (.bool true)], args := [d] }
  | _ => none }
def fnInstantWeekdayFollowsTheCalendarAndAdvancesDailyRow : OpenClaim := { program := "qxb6614647a", sum := "5705157d85c3fb8c7f8c5f4018467cb09bc883b12b9a743e585bc844d157bd25", func := "example.com/chronokey/chronokey/zzlaws_root_b1.FnInstantWeekdayFollowsTheCalendarAndAdvancesDaily", spec := "fnInstantWeekdayFollowsTheCalendarAndAdvancesDaily", apart := false }
def FnInstantWeekdayFollowsTheCalendarAndAdvancesDailySaid : Prop := fnInstantWeekdayFollowsTheCalendarAndAdvancesDailyRow.holds Try.pinned (OpenSpec.ofChange fnInstantWeekdayFollowsTheCalendarAndAdvancesDailySpec)

/-- ITS FALSE NEIGHBOUR: 'it returns false'. Refute it at one input. -/
def fnInstantWeekdayFollowsTheCalendarAndAdvancesDailyWrong : ChangeSpec := { name := "fnInstantWeekdayFollowsTheCalendarAndAdvancesDaily", fn := fun _ => fun
  | [d] => { results := [.lit (.bool false)], args := [d] }
  | _ => none }
def FnInstantWeekdayFollowsTheCalendarAndAdvancesDailyWrongFalsely : Prop := fnInstantWeekdayFollowsTheCalendarAndAdvancesDailyRow.holds Try.pinned (OpenSpec.ofChange fnInstantWeekdayFollowsTheCalendarAndAdvancesDailyWrong)

end Rows
end Go.Proofs.Qxb6614647a
