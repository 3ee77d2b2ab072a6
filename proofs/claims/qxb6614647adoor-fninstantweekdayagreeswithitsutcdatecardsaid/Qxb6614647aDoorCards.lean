/-
  DERIVED. GIVEN WITH THE SEED: THE CARDS: each row of Qxb6614647aDoorRows.lean that lists a variable, with what it lists TIED to the program's text (the seventh form; the later family's looks); each row that meets fmt, with fmt's text TOLD by the authors' own Lean function (tested against real Go, not proved from fmt's source: count such statements apart). THE CARD IS WHAT COUNTS. Prove the row's statement (the work); the ties are given (Qxb6614647aDoorTie.lean); close each card by the builder's one call (the guide's Derived/Test/ToyasCard.lean, 'card_holds'). Laid BY PROGRAM, IN A SANDBOX (cutbox-door.mjs). By AI agents, Wed Nov 11 2026. No macro, syntax, notation, axiom, sorry.
-/
import Derived.Test.Qxb6614647aDoorRows
import GoSem.ClaimSeven
namespace Go.Proofs.Qxb6614647aDoor
namespace Rows

/-- THE TIED CARD OF 'zzlaws_root_b1.FnInstantDayReadsTheUTCCalendarDate'. -/
def fnInstantDayReadsTheUTCCalendarDateCard : Claim7 := { stood := { row := fnInstantDayReadsTheUTCCalendarDateRow, standIns := [], harness := (true, "1e67b081efef37fa8495c25e821bbc057b3f5513e3f7474046f7a45448fe5f54"), looks := false }, kinds := [], alts := [], laidByText := true, laidKinds := [.data], laidTests := true, laidLooks := .later }
def FnInstantDayReadsTheUTCCalendarDateCardSaid : Prop := Claim7.holds Tryd.pinned (.plain (OpenSpec.ofChange fnInstantDayReadsTheUTCCalendarDateSpec)) fnInstantDayReadsTheUTCCalendarDateCard

/-- THE TIED CARD OF 'zzlaws_root_b1.FnInstantWeekdayAgreesWithItsUTCDate'. -/
def fnInstantWeekdayAgreesWithItsUTCDateCard : Claim7 := { stood := { row := fnInstantWeekdayAgreesWithItsUTCDateRow, standIns := [], harness := (true, "1e67b081efef37fa8495c25e821bbc057b3f5513e3f7474046f7a45448fe5f54"), looks := false }, kinds := [], alts := [], laidByText := true, laidKinds := [.data], laidTests := true, laidLooks := .later }
def FnInstantWeekdayAgreesWithItsUTCDateCardSaid : Prop := Claim7.holds Tryd.pinned (.plain (OpenSpec.ofChange fnInstantWeekdayAgreesWithItsUTCDateSpec)) fnInstantWeekdayAgreesWithItsUTCDateCard
end Rows
end Go.Proofs.Qxb6614647aDoor
