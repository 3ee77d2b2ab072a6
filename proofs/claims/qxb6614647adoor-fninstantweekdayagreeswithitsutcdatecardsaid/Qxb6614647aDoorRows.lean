/-
  NARROWER THAN 'FOR EVERY INPUT', by the rows' own cells (each row's printed sentence says how): FnInstantDayReadsTheUTCCalendarDate: laid · FnInstantWeekdayAgreesWithItsUTCDate: laid.
  DERIVED. THE GIVEN ROWS OF THIS SEAT. 2 by the template 'for every input the law returns true; each argument reads behind the call as it read before'; 0 by the template 'total and deterministic' (their statements: Qxb6614647aDoorTotals.lean).
  GIVEN WITH THE SEED: the statements are not yours to turn. If you find one false, say at which input.
  Laid BY PROGRAM, IN A SANDBOX (cutbox-rows.mjs): the forced cells as the released guide's own fill.sh prints them over the translation 5b792212442bc463… (all of the seat's roots in one cut). By AI agents, Wed Nov 11 2026. No macro, syntax, notation, axiom, sorry.
-/
import Derived.Test.Qxb6614647aDoorChecked
import GoSem.Claim
import GoSem.ClaimJoined
import GoSem.ClaimMapViews
import Derived.JoinedTies
import Derived.KernelRfl
namespace Go.Proofs.Qxb6614647aDoor
/- THE CELL 'sum', in the pinned program and in every row, IS THE sha256 OF THE DUMP (.gsa) THAT Qxb6614647aDoorProg.lean LOADS. Nothing in Lean hashes anything: it is a label: what it is worth is what the hold of that sum in a sandbox is worth. -/
noncomputable def Tryd.pinned : Pinned := { name := "qxb6614647adoor", sum := "5b792212442bc46384f8d2d35a7bbbcf068a05c1894e691a7bd1d876d9f4c637", checked := Tryd.checked }
namespace Rows
def none {H : Type} : Left H := { results := [], args := [] }

/- WHAT THE LISTED PACKAGE-LEVEL VARIABLES READ AS WHEN THE CALL BEGINS. Each datum BY PROGRAM (the guide's laid-datum.mjs) off the statement by which the dump's own 'gosem.cut.vars' lays the variable. In a bare row this is a premise. The card (Qxb6614647aDoorCards.lean) ties it to the program's text. -/
def laid_example_com_chronokey_chronokey_daysBeforeMonth {H : Type} : DataW H := .agg [.lit (.int .i64 0), .lit (.int .i64 31), .lit (.int .i64 59), .lit (.int .i64 90), .lit (.int .i64 120), .lit (.int .i64 151), .lit (.int .i64 181), .lit (.int .i64 212), .lit (.int .i64 243), .lit (.int .i64 273), .lit (.int .i64 304), .lit (.int .i64 334)]

/-- 'zzlaws_root_b1.FnInstantDayReadsTheUTCCalendarDate': WHATEVER THE INPUT: true; the input reads as it did. -/
def fnInstantDayReadsTheUTCCalendarDateSpec : ChangeSpec := { name := "fnInstantDayReadsTheUTCCalendarDate", vars := ["example.com/chronokey/chronokey.daysBeforeMonth"], fn := fun _ => fun
  | [d, g1] => { results := [.lit (.bool true)], args := [d], vars := [g1] }
  | _ => none }
def fnInstantDayReadsTheUTCCalendarDateRow : OpenClaim := { program := "qxb6614647adoor", sum := "5b792212442bc46384f8d2d35a7bbbcf068a05c1894e691a7bd1d876d9f4c637", func := "example.com/chronokey/chronokey/zzlaws_root_b1.FnInstantDayReadsTheUTCCalendarDate", spec := "fnInstantDayReadsTheUTCCalendarDate", named := ["example.com/chronokey/chronokey.daysBeforeMonth"], apart := false, laid := [("example.com/chronokey/chronokey.daysBeforeMonth", laid_example_com_chronokey_chronokey_daysBeforeMonth)] }
def FnInstantDayReadsTheUTCCalendarDateSaid : Prop := fnInstantDayReadsTheUTCCalendarDateRow.holds Tryd.pinned (OpenSpec.ofChange fnInstantDayReadsTheUTCCalendarDateSpec)

/-- ITS FALSE NEIGHBOUR: 'it returns false'. Refute it at one input. -/
def fnInstantDayReadsTheUTCCalendarDateWrong : ChangeSpec := { name := "fnInstantDayReadsTheUTCCalendarDate", vars := ["example.com/chronokey/chronokey.daysBeforeMonth"], fn := fun _ => fun
  | [d, g1] => { results := [.lit (.bool false)], args := [d], vars := [g1] }
  | _ => none }
def FnInstantDayReadsTheUTCCalendarDateWrongFalsely : Prop := fnInstantDayReadsTheUTCCalendarDateRow.holds Tryd.pinned (OpenSpec.ofChange fnInstantDayReadsTheUTCCalendarDateWrong)

/-- 'zzlaws_root_b1.FnInstantWeekdayAgreesWithItsUTCDate': WHATEVER THE INPUT: true; the input reads as it did. -/
def fnInstantWeekdayAgreesWithItsUTCDateSpec : ChangeSpec := { name := "fnInstantWeekdayAgreesWithItsUTCDate", vars := ["example.com/chronokey/chronokey.daysBeforeMonth"], fn := fun _ => fun
  | [d, g1] => { results := [.lit (.bool true)], args := [d], vars := [g1] }
  | _ => none }
def fnInstantWeekdayAgreesWithItsUTCDateRow : OpenClaim := { program := "qxb6614647adoor", sum := "5b792212442bc46384f8d2d35a7bbbcf068a05c1894e691a7bd1d876d9f4c637", func := "example.com/chronokey/chronokey/zzlaws_root_b1.FnInstantWeekdayAgreesWithItsUTCDate", spec := "fnInstantWeekdayAgreesWithItsUTCDate", named := ["example.com/chronokey/chronokey.daysBeforeMonth"], apart := false, laid := [("example.com/chronokey/chronokey.daysBeforeMonth", laid_example_com_chronokey_chronokey_daysBeforeMonth)] }
def FnInstantWeekdayAgreesWithItsUTCDateSaid : Prop := fnInstantWeekdayAgreesWithItsUTCDateRow.holds Tryd.pinned (OpenSpec.ofChange fnInstantWeekdayAgreesWithItsUTCDateSpec)

/-- ITS FALSE NEIGHBOUR: 'it returns false'. Refute it at one input. -/
def fnInstantWeekdayAgreesWithItsUTCDateWrong : ChangeSpec := { name := "fnInstantWeekdayAgreesWithItsUTCDate", vars := ["example.com/chronokey/chronokey.daysBeforeMonth"], fn := fun _ => fun
  | [d, g1] => { results := [.lit (.bool false)], args := [d], vars := [g1] }
  | _ => none }
def FnInstantWeekdayAgreesWithItsUTCDateWrongFalsely : Prop := fnInstantWeekdayAgreesWithItsUTCDateRow.holds Tryd.pinned (OpenSpec.ofChange fnInstantWeekdayAgreesWithItsUTCDateWrong)

end Rows
end Go.Proofs.Qxb6614647aDoor
