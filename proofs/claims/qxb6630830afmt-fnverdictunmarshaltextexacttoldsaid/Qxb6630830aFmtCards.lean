/-
  DERIVED. GIVEN WITH THE SEED: THE CARDS: each row of Qxb6630830aFmtRows.lean that lists a variable, with what it lists TIED to the program's text (the seventh form; the later family's looks); each row that meets fmt, with fmt's text TOLD by the authors' own Lean function (tested against real Go, not proved from fmt's source: count such statements apart). THE CARD IS WHAT COUNTS. Prove the row's statement (the work); the ties are given (Qxb6630830aFmtTie.lean); close each card by the builder's one call (the guide's Derived/Test/ToyasCard.lean, 'card_holds'). Laid BY PROGRAM, IN A SANDBOX (cutbox-door.mjs). By AI agents, Wed Nov 11 2026. No macro, syntax, notation, axiom, sorry.
-/
import Derived.Test.Qxb6630830aFmtRows
import GoSem.ClaimSeven
namespace Go.Proofs.Qxb6630830aFmt
namespace Rows

/-- THE TOLD CARD OF 'zzlaws_root_b1.FnVerdictUnmarshalTextExact'. -/
def fnVerdictUnmarshalTextExactCard : Claim7 := { stood := { row := fnVerdictUnmarshalTextExactRow, standIns := [], harness := (true, "1f286099e609a775f5cfbf80971bbc319278080e79160bc63a19ec575d19ae30"), looks := false }, told := true, goes := false }
def FnVerdictUnmarshalTextExactToldSaid : Prop := Claim7.holds Tryf.pinned (.plain (OpenSpec.ofChange fnVerdictUnmarshalTextExactSpec)) fnVerdictUnmarshalTextExactCard
/-- ITS FALSE NEIGHBOUR. Refute it at one input. -/
def FnVerdictUnmarshalTextExactToldWrongFalsely : Prop := Claim7.holds Tryf.pinned (.plain (OpenSpec.ofChange fnVerdictUnmarshalTextExactWrong)) fnVerdictUnmarshalTextExactCard

/-- THE TOLD CARD OF 'zzlaws_root_b1.FnVerdictStringRoundTrip'. -/
def fnVerdictStringRoundTripCard : Claim7 := { stood := { row := fnVerdictStringRoundTripRow, standIns := [], harness := (true, "1f286099e609a775f5cfbf80971bbc319278080e79160bc63a19ec575d19ae30"), looks := false }, told := true, goes := false }
def FnVerdictStringRoundTripToldSaid : Prop := Claim7.holds Tryf.pinned (.plain (OpenSpec.ofChange fnVerdictStringRoundTripSpec)) fnVerdictStringRoundTripCard
/-- ITS FALSE NEIGHBOUR. Refute it at one input. -/
def FnVerdictStringRoundTripToldWrongFalsely : Prop := Claim7.holds Tryf.pinned (.plain (OpenSpec.ofChange fnVerdictStringRoundTripWrong)) fnVerdictStringRoundTripCard
end Rows
end Go.Proofs.Qxb6630830aFmt
