/-
  No cell of these rows narrows 'for every input' (looked for: loops, veiled, ifaces, maps, wideKeys, modest, calm, conditions, laid).
  DERIVED. THE GIVEN ROWS OF THIS SEAT. 2 by the template 'for every input the law returns true; each argument reads behind the call as it read before'; 0 by the template 'total and deterministic' (their statements: Qxb6630774aFmtTotals.lean).
  GIVEN WITH THE SEED: the statements are not yours to turn. If you find one false, say at which input.
  Laid BY PROGRAM, IN A SANDBOX (cutbox-rows.mjs): the forced cells as the released guide's own fill.sh prints them over the translation 99d568080cd0b346… (all of the seat's roots in one cut). By AI agents, Wed Nov 11 2026. No macro, syntax, notation, axiom, sorry.
-/
import Derived.Test.Qxb6630774aFmtChecked
import GoSem.Claim
import GoSem.ClaimJoined
import GoSem.ClaimMapViews
import Derived.JoinedTies
import Derived.KernelRfl
namespace Go.Proofs.Qxb6630774aFmt
/- THE CELL 'sum', in the pinned program and in every row, IS THE sha256 OF THE DUMP (.gsa) THAT Qxb6630774aFmtProg.lean LOADS. Nothing in Lean hashes anything: it is a label: what it is worth is what the hold of that sum in a sandbox is worth. -/
noncomputable def Tryf.pinned : Pinned := { name := "qxb6630774afmt", sum := "99d568080cd0b3467d420c19d66406c32d196f8413a87a55af81c40be0404f2e", checked := Tryf.checked }
namespace Rows
def none {H : Type} : Left H := { results := [], args := [] }

/-- 'zzlaws_tender_b1.FnCheckTopUpExplicitOrCalendar': WHATEVER THE INPUT: true; the input reads as it did. -/
def fnCheckTopUpExplicitOrCalendarSpec : ChangeSpec := { name := "fnCheckTopUpExplicitOrCalendar", fn := fun _ => fun
  | [d1, d2, d3, d4, d5, d6, d7, d8, d9, d10, d11, d12] => { results := [.lit (.bool true)], args := [d1, d2, d3, d4, d5, d6, d7, d8, d9, d10, d11, d12] }
  | _ => none }
def fnCheckTopUpExplicitOrCalendarRow : OpenClaim := { program := "qxb6630774afmt", sum := "99d568080cd0b3467d420c19d66406c32d196f8413a87a55af81c40be0404f2e", func := "example.com/tenderbook/tenderbook/zzlaws_tender_b1.FnCheckTopUpExplicitOrCalendar", spec := "fnCheckTopUpExplicitOrCalendar", stops := ["fmt.errorf"], inPlace := ["fmt.errorf"], apart := false }
/-- NO THEOREM (fmt's text is open here; it may be false): for the released tool's asking of the row's closed facts alone. THE STATEMENT IS 'FnCheckTopUpExplicitOrCalendarToldSaid' (Qxb6630774aFmtCards.lean). -/
def FnCheckTopUpExplicitOrCalendarFormAsk : Prop := fnCheckTopUpExplicitOrCalendarRow.holds Tryf.pinned (OpenSpec.ofChange fnCheckTopUpExplicitOrCalendarSpec)

/-- ITS FALSE NEIGHBOUR: 'it returns false'. Refute it at one input. -/
def fnCheckTopUpExplicitOrCalendarWrong : ChangeSpec := { name := "fnCheckTopUpExplicitOrCalendar", fn := fun _ => fun
  | [d1, d2, d3, d4, d5, d6, d7, d8, d9, d10, d11, d12] => { results := [.lit (.bool false)], args := [d1, d2, d3, d4, d5, d6, d7, d8, d9, d10, d11, d12] }
  | _ => none }
def FnCheckTopUpExplicitOrCalendarWrongFormAsk : Prop := fnCheckTopUpExplicitOrCalendarRow.holds Tryf.pinned (OpenSpec.ofChange fnCheckTopUpExplicitOrCalendarWrong)

/-- 'zzlaws_tender_b1.FnCheckTopUpYearsAgreeWithDays': WHATEVER THE INPUT: true; the input reads as it did. -/
def fnCheckTopUpYearsAgreeWithDaysSpec : ChangeSpec := { name := "fnCheckTopUpYearsAgreeWithDays", fn := fun _ => fun
  | [d1, d2, d3, d4, d5, d6, d7, d8, d9, d10, d11, d12] => { results := [.lit (.bool true)], args := [d1, d2, d3, d4, d5, d6, d7, d8, d9, d10, d11, d12] }
  | _ => none }
def fnCheckTopUpYearsAgreeWithDaysRow : OpenClaim := { program := "qxb6630774afmt", sum := "99d568080cd0b3467d420c19d66406c32d196f8413a87a55af81c40be0404f2e", func := "example.com/tenderbook/tenderbook/zzlaws_tender_b1.FnCheckTopUpYearsAgreeWithDays", spec := "fnCheckTopUpYearsAgreeWithDays", stops := ["fmt.errorf"], inPlace := ["fmt.errorf"], apart := false }
/-- NO THEOREM (fmt's text is open here; it may be false): for the released tool's asking of the row's closed facts alone. THE STATEMENT IS 'FnCheckTopUpYearsAgreeWithDaysToldSaid' (Qxb6630774aFmtCards.lean). -/
def FnCheckTopUpYearsAgreeWithDaysFormAsk : Prop := fnCheckTopUpYearsAgreeWithDaysRow.holds Tryf.pinned (OpenSpec.ofChange fnCheckTopUpYearsAgreeWithDaysSpec)

/-- ITS FALSE NEIGHBOUR: 'it returns false'. Refute it at one input. -/
def fnCheckTopUpYearsAgreeWithDaysWrong : ChangeSpec := { name := "fnCheckTopUpYearsAgreeWithDays", fn := fun _ => fun
  | [d1, d2, d3, d4, d5, d6, d7, d8, d9, d10, d11, d12] => { results := [.lit (.bool false)], args := [d1, d2, d3, d4, d5, d6, d7, d8, d9, d10, d11, d12] }
  | _ => none }
def FnCheckTopUpYearsAgreeWithDaysWrongFormAsk : Prop := fnCheckTopUpYearsAgreeWithDaysRow.holds Tryf.pinned (OpenSpec.ofChange fnCheckTopUpYearsAgreeWithDaysWrong)

end Rows
end Go.Proofs.Qxb6630774aFmt
