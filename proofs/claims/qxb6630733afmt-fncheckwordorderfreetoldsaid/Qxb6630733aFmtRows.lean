/-
  No cell of these rows narrows 'for every input' (looked for: loops, veiled, ifaces, maps, wideKeys, modest, calm, conditions, laid).
  DERIVED. THE GIVEN ROWS OF THIS SEAT. 2 by the template 'for every input the law returns true; each argument reads behind the call as it read before'; 0 by the template 'total and deterministic' (their statements: Qxb6630733aFmtTotals.lean).
  GIVEN WITH THE SEED: the statements are not yours to turn. If you find one false, say at which input.
  Laid BY PROGRAM, IN A SANDBOX (cutbox-rows.mjs): the forced cells as the released guide's own fill.sh prints them over the translation f9f10d7e610f4654… (all of the seat's roots in one cut). By AI agents, Wed Nov 11 2026. No macro, syntax, notation, axiom, sorry.
-/
import Derived.Test.Qxb6630733aFmtChecked
import GoSem.Claim
import GoSem.ClaimJoined
import GoSem.ClaimMapViews
import Derived.JoinedTies
import Derived.KernelRfl
namespace Go.Proofs.Qxb6630733aFmt
/- THE CELL 'sum', in the pinned program and in every row, IS THE sha256 OF THE DUMP (.gsa) THAT Qxb6630733aFmtProg.lean LOADS. Nothing in Lean hashes anything: it is a label: what it is worth is what the hold of that sum in a sandbox is worth. -/
noncomputable def Tryf.pinned : Pinned := { name := "qxb6630733afmt", sum := "f9f10d7e610f465427accd118f7a51c714f14459fbfbd60dd1d53fbb246af49e", checked := Tryf.checked }
namespace Rows
def none {H : Type} : Left H := { results := [], args := [] }

/-- 'zzlaws_input_b1.FnCheckWordCut': WHATEVER THE INPUT: true; the input reads as it did. -/
def fnCheckWordCutSpec : ChangeSpec := { name := "fnCheckWordCut", fn := fun _ => fun
  | [d1, d2] => { results := [.lit (.bool true)], args := [d1, d2] }
  | _ => none }
def fnCheckWordCutRow : OpenClaim := { program := "qxb6630733afmt", sum := "f9f10d7e610f465427accd118f7a51c714f14459fbfbd60dd1d53fbb246af49e", func := "example.com/tuoguan/tuoguan/zzlaws_input_b1.FnCheckWordCut", spec := "fnCheckWordCut", stops := ["fmt.errorf"], inPlace := ["fmt.errorf"], apart := false }
/-- NO THEOREM (fmt's text is open here; it may be false): for the released tool's asking of the row's closed facts alone. THE STATEMENT IS 'FnCheckWordCutToldSaid' (Qxb6630733aFmtCards.lean). -/
def FnCheckWordCutFormAsk : Prop := fnCheckWordCutRow.holds Tryf.pinned (OpenSpec.ofChange fnCheckWordCutSpec)

/-- ITS FALSE NEIGHBOUR: 'it returns false'. Refute it at one input. -/
def fnCheckWordCutWrong : ChangeSpec := { name := "fnCheckWordCut", fn := fun _ => fun
  | [d1, d2] => { results := [.lit (.bool false)], args := [d1, d2] }
  | _ => none }
def FnCheckWordCutWrongFormAsk : Prop := fnCheckWordCutRow.holds Tryf.pinned (OpenSpec.ofChange fnCheckWordCutWrong)

/-- 'zzlaws_input_b1.FnCheckWordOrderFree': WHATEVER THE INPUT: true; the input reads as it did. -/
def fnCheckWordOrderFreeSpec : ChangeSpec := { name := "fnCheckWordOrderFree", fn := fun _ => fun
  | [d] => { results := [.lit (.bool true)], args := [d] }
  | _ => none }
def fnCheckWordOrderFreeRow : OpenClaim := { program := "qxb6630733afmt", sum := "f9f10d7e610f465427accd118f7a51c714f14459fbfbd60dd1d53fbb246af49e", func := "example.com/tuoguan/tuoguan/zzlaws_input_b1.FnCheckWordOrderFree", spec := "fnCheckWordOrderFree", stops := ["fmt.errorf"], inPlace := ["fmt.errorf"], apart := false }
/-- NO THEOREM (fmt's text is open here; it may be false): for the released tool's asking of the row's closed facts alone. THE STATEMENT IS 'FnCheckWordOrderFreeToldSaid' (Qxb6630733aFmtCards.lean). -/
def FnCheckWordOrderFreeFormAsk : Prop := fnCheckWordOrderFreeRow.holds Tryf.pinned (OpenSpec.ofChange fnCheckWordOrderFreeSpec)

/-- ITS FALSE NEIGHBOUR: 'it returns false'. Refute it at one input. -/
def fnCheckWordOrderFreeWrong : ChangeSpec := { name := "fnCheckWordOrderFree", fn := fun _ => fun
  | [d] => { results := [.lit (.bool false)], args := [d] }
  | _ => none }
def FnCheckWordOrderFreeWrongFormAsk : Prop := fnCheckWordOrderFreeRow.holds Tryf.pinned (OpenSpec.ofChange fnCheckWordOrderFreeWrong)

end Rows
end Go.Proofs.Qxb6630733aFmt
