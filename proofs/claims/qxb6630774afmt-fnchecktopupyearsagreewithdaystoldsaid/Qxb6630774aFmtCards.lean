/-
  DERIVED. GIVEN WITH THE SEED: THE CARDS: each row of Qxb6630774aFmtRows.lean that lists a variable, with what it lists TIED to the program's text (the seventh form; the later family's looks); each row that meets fmt, with fmt's text TOLD by the authors' own Lean function (tested against real Go, not proved from fmt's source: count such statements apart). THE CARD IS WHAT COUNTS. Prove the row's statement (the work); the ties are given (Qxb6630774aFmtTie.lean); close each card by the builder's one call (the guide's Derived/Test/ToyasCard.lean, 'card_holds'). Laid BY PROGRAM, IN A SANDBOX (cutbox-door.mjs). By AI agents, Wed Nov 11 2026. No macro, syntax, notation, axiom, sorry.
-/
import Derived.Test.Qxb6630774aFmtRows
import GoSem.ClaimSeven
namespace Go.Proofs.Qxb6630774aFmt
namespace Rows

/-- THE TOLD CARD OF 'zzlaws_tender_b1.FnCheckTopUpExplicitOrCalendar'. -/
def fnCheckTopUpExplicitOrCalendarCard : Claim7 := { stood := { row := fnCheckTopUpExplicitOrCalendarRow, standIns := [], harness := (true, "ad9f1ce77432a3c943b89b72515f296859e8296169f82f90ca68465b858ec89d"), looks := false }, told := true, goes := false }
def FnCheckTopUpExplicitOrCalendarToldSaid : Prop := Claim7.holds Tryf.pinned (.plain (OpenSpec.ofChange fnCheckTopUpExplicitOrCalendarSpec)) fnCheckTopUpExplicitOrCalendarCard
/-- ITS FALSE NEIGHBOUR. Refute it at one input. -/
def FnCheckTopUpExplicitOrCalendarToldWrongFalsely : Prop := Claim7.holds Tryf.pinned (.plain (OpenSpec.ofChange fnCheckTopUpExplicitOrCalendarWrong)) fnCheckTopUpExplicitOrCalendarCard

/-- THE TOLD CARD OF 'zzlaws_tender_b1.FnCheckTopUpYearsAgreeWithDays'. -/
def fnCheckTopUpYearsAgreeWithDaysCard : Claim7 := { stood := { row := fnCheckTopUpYearsAgreeWithDaysRow, standIns := [], harness := (true, "ad9f1ce77432a3c943b89b72515f296859e8296169f82f90ca68465b858ec89d"), looks := false }, told := true, goes := false }
def FnCheckTopUpYearsAgreeWithDaysToldSaid : Prop := Claim7.holds Tryf.pinned (.plain (OpenSpec.ofChange fnCheckTopUpYearsAgreeWithDaysSpec)) fnCheckTopUpYearsAgreeWithDaysCard
/-- ITS FALSE NEIGHBOUR. Refute it at one input. -/
def FnCheckTopUpYearsAgreeWithDaysToldWrongFalsely : Prop := Claim7.holds Tryf.pinned (.plain (OpenSpec.ofChange fnCheckTopUpYearsAgreeWithDaysWrong)) fnCheckTopUpYearsAgreeWithDaysCard
end Rows
end Go.Proofs.Qxb6630774aFmt
