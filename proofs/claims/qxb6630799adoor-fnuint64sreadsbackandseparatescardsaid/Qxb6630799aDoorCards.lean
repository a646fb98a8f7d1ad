/-
  DERIVED. GIVEN WITH THE SEED: THE CARDS: each row of Qxb6630799aDoorRows.lean that lists a variable, with what it lists TIED to the program's text (the seventh form; the later family's looks); each row that meets fmt, with fmt's text TOLD by the authors' own Lean function (tested against real Go, not proved from fmt's source: count such statements apart). THE CARD IS WHAT COUNTS. Prove the row's statement (the work); the ties are given (Qxb6630799aDoorTie.lean); close each card by the builder's one call (the guide's Derived/Test/ToyasCard.lean, 'card_holds'). Laid BY PROGRAM, IN A SANDBOX (cutbox-door.mjs). By AI agents, Wed Nov 11 2026. No macro, syntax, notation, axiom, sorry.
-/
import Derived.Test.Qxb6630799aDoorRows
import GoSem.ClaimSeven
namespace Go.Proofs.Qxb6630799aDoor
namespace Rows

/-- THE TIED CARD OF 'zzlaws_internal_jsonenc_b1.FnUint64sSplitsAtAnyCut'. -/
def fnUint64sSplitsAtAnyCutCard : Claim7 := { stood := { row := fnUint64sSplitsAtAnyCutRow, standIns := [], harness := (true, "e9205f2395048d484007e16fe19e24e941ef937a3c5d8a22b4b4e6cf1b573915"), looks := false }, kinds := [], alts := [], laidByText := true, laidKinds := [.data, .data, .data], laidTests := true, laidLooks := .later }
def FnUint64sSplitsAtAnyCutCardSaid : Prop := Claim7.holds Tryd.pinned (.plain (OpenSpec.ofChange fnUint64sSplitsAtAnyCutSpec)) fnUint64sSplitsAtAnyCutCard

/-- THE TIED CARD OF 'zzlaws_internal_jsonenc_b1.FnUint64sReadsBackAndSeparates'. -/
def fnUint64sReadsBackAndSeparatesCard : Claim7 := { stood := { row := fnUint64sReadsBackAndSeparatesRow, standIns := [], harness := (true, "e9205f2395048d484007e16fe19e24e941ef937a3c5d8a22b4b4e6cf1b573915"), looks := false }, kinds := [], alts := [], laidByText := true, laidKinds := [.data, .data, .data], laidTests := true, laidLooks := .later }
def FnUint64sReadsBackAndSeparatesCardSaid : Prop := Claim7.holds Tryd.pinned (.plain (OpenSpec.ofChange fnUint64sReadsBackAndSeparatesSpec)) fnUint64sReadsBackAndSeparatesCard
end Rows
end Go.Proofs.Qxb6630799aDoor
