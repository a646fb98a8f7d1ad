/-
  DERIVED. GIVEN WITH THE SEED: THE CARDS: each row of Qxb6630733aFmtRows.lean that lists a variable, with what it lists TIED to the program's text (the seventh form; the later family's looks); each row that meets fmt, with fmt's text TOLD by the authors' own Lean function (tested against real Go, not proved from fmt's source: count such statements apart). THE CARD IS WHAT COUNTS. Prove the row's statement (the work); the ties are given (Qxb6630733aFmtTie.lean); close each card by the builder's one call (the guide's Derived/Test/ToyasCard.lean, 'card_holds'). Laid BY PROGRAM, IN A SANDBOX (cutbox-door.mjs). By AI agents, Wed Nov 11 2026. No macro, syntax, notation, axiom, sorry.
-/
import Derived.Test.Qxb6630733aFmtRows
import GoSem.ClaimSeven
namespace Go.Proofs.Qxb6630733aFmt
namespace Rows

/-- THE TOLD CARD OF 'zzlaws_input_b1.FnCheckWordCut'. -/
def fnCheckWordCutCard : Claim7 := { stood := { row := fnCheckWordCutRow, standIns := [], harness := (true, "955aa364cd620c04a66a8602c0c7162c03cc6e66f461c151ef3d7c459ec15e33"), looks := false }, told := true, goes := false }
def FnCheckWordCutToldSaid : Prop := Claim7.holds Tryf.pinned (.plain (OpenSpec.ofChange fnCheckWordCutSpec)) fnCheckWordCutCard
/-- ITS FALSE NEIGHBOUR. Refute it at one input. -/
def FnCheckWordCutToldWrongFalsely : Prop := Claim7.holds Tryf.pinned (.plain (OpenSpec.ofChange fnCheckWordCutWrong)) fnCheckWordCutCard

/-- THE TOLD CARD OF 'zzlaws_input_b1.FnCheckWordOrderFree'. -/
def fnCheckWordOrderFreeCard : Claim7 := { stood := { row := fnCheckWordOrderFreeRow, standIns := [], harness := (true, "955aa364cd620c04a66a8602c0c7162c03cc6e66f461c151ef3d7c459ec15e33"), looks := false }, told := true, goes := false }
def FnCheckWordOrderFreeToldSaid : Prop := Claim7.holds Tryf.pinned (.plain (OpenSpec.ofChange fnCheckWordOrderFreeSpec)) fnCheckWordOrderFreeCard
/-- ITS FALSE NEIGHBOUR. Refute it at one input. -/
def FnCheckWordOrderFreeToldWrongFalsely : Prop := Claim7.holds Tryf.pinned (.plain (OpenSpec.ofChange fnCheckWordOrderFreeWrong)) fnCheckWordOrderFreeCard
end Rows
end Go.Proofs.Qxb6630733aFmt
