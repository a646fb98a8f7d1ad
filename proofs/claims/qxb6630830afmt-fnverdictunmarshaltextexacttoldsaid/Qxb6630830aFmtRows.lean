/-
  No cell of these rows narrows 'for every input' (looked for: loops, veiled, ifaces, maps, wideKeys, modest, calm, conditions, laid).
  DERIVED. THE GIVEN ROWS OF THIS SEAT. 2 by the template 'for every input the law returns true; each argument reads behind the call as it read before'; 0 by the template 'total and deterministic' (their statements: Qxb6630830aFmtTotals.lean).
  GIVEN WITH THE SEED: the statements are not yours to turn. If you find one false, say at which input.
  Laid BY PROGRAM, IN A SANDBOX (cutbox-rows.mjs): the forced cells as the released guide's own fill.sh prints them over the translation 19b90dc1727a1232… (all of the seat's roots in one cut). By AI agents, Wed Nov 11 2026. No macro, syntax, notation, axiom, sorry.
-/
import Derived.Test.Qxb6630830aFmtChecked
import GoSem.Claim
import GoSem.ClaimJoined
import GoSem.ClaimMapViews
import Derived.JoinedTies
import Derived.KernelRfl
namespace Go.Proofs.Qxb6630830aFmt
/- THE CELL 'sum', in the pinned program and in every row, IS THE sha256 OF THE DUMP (.gsa) THAT Qxb6630830aFmtProg.lean LOADS. Nothing in Lean hashes anything: it is a label: what it is worth is what the hold of that sum in a sandbox is worth. -/
noncomputable def Tryf.pinned : Pinned := { name := "qxb6630830afmt", sum := "19b90dc1727a123227cf850389c1b6b9e590479d41e202601fde0652eaf5a01c", checked := Tryf.checked }
namespace Rows
def none {H : Type} : Left H := { results := [], args := [] }

/-- 'zzlaws_root_b1.FnVerdictUnmarshalTextExact': WHATEVER THE INPUT: true; the input reads as it did. -/
def fnVerdictUnmarshalTextExactSpec : ChangeSpec := { name := "fnVerdictUnmarshalTextExact", fn := fun _ => fun
  | [d1, d2] => { results := [.lit (.bool true)], args := [d1, d2] }
  | _ => none }
def fnVerdictUnmarshalTextExactRow : OpenClaim := { program := "qxb6630830afmt", sum := "19b90dc1727a123227cf850389c1b6b9e590479d41e202601fde0652eaf5a01c", func := "example.com/moniker/moniker/zzlaws_root_b1.FnVerdictUnmarshalTextExact", spec := "fnVerdictUnmarshalTextExact", stops := ["fmt.Sprintf", "fmt.errorf, its operands' methods called"], inPlace := ["fmt.Sprintf", "fmt.errorf"], unfollowed := true, recurses := true, apart := false }
/-- NO THEOREM (fmt's text is open here; it may be false): for the released tool's asking of the row's closed facts alone. THE STATEMENT IS 'FnVerdictUnmarshalTextExactToldSaid' (Qxb6630830aFmtCards.lean). -/
def FnVerdictUnmarshalTextExactFormAsk : Prop := fnVerdictUnmarshalTextExactRow.holds Tryf.pinned (OpenSpec.ofChange fnVerdictUnmarshalTextExactSpec)

/-- ITS FALSE NEIGHBOUR: 'it returns false'. Refute it at one input. -/
def fnVerdictUnmarshalTextExactWrong : ChangeSpec := { name := "fnVerdictUnmarshalTextExact", fn := fun _ => fun
  | [d1, d2] => { results := [.lit (.bool false)], args := [d1, d2] }
  | _ => none }
def FnVerdictUnmarshalTextExactWrongFormAsk : Prop := fnVerdictUnmarshalTextExactRow.holds Tryf.pinned (OpenSpec.ofChange fnVerdictUnmarshalTextExactWrong)

/-- 'zzlaws_root_b1.FnVerdictStringRoundTrip': WHATEVER THE INPUT: true; the input reads as it did. -/
def fnVerdictStringRoundTripSpec : ChangeSpec := { name := "fnVerdictStringRoundTrip", fn := fun _ => fun
  | [d1, d2] => { results := [.lit (.bool true)], args := [d1, d2] }
  | _ => none }
def fnVerdictStringRoundTripRow : OpenClaim := { program := "qxb6630830afmt", sum := "19b90dc1727a123227cf850389c1b6b9e590479d41e202601fde0652eaf5a01c", func := "example.com/moniker/moniker/zzlaws_root_b1.FnVerdictStringRoundTrip", spec := "fnVerdictStringRoundTrip", stops := ["fmt.Sprintf", "fmt.errorf, its operands' methods called"], inPlace := ["fmt.Sprintf", "fmt.errorf"], unfollowed := true, recurses := true, apart := false }
/-- NO THEOREM (fmt's text is open here; it may be false): for the released tool's asking of the row's closed facts alone. THE STATEMENT IS 'FnVerdictStringRoundTripToldSaid' (Qxb6630830aFmtCards.lean). -/
def FnVerdictStringRoundTripFormAsk : Prop := fnVerdictStringRoundTripRow.holds Tryf.pinned (OpenSpec.ofChange fnVerdictStringRoundTripSpec)

/-- ITS FALSE NEIGHBOUR: 'it returns false'. Refute it at one input. -/
def fnVerdictStringRoundTripWrong : ChangeSpec := { name := "fnVerdictStringRoundTrip", fn := fun _ => fun
  | [d1, d2] => { results := [.lit (.bool false)], args := [d1, d2] }
  | _ => none }
def FnVerdictStringRoundTripWrongFormAsk : Prop := fnVerdictStringRoundTripRow.holds Tryf.pinned (OpenSpec.ofChange fnVerdictStringRoundTripWrong)

end Rows
end Go.Proofs.Qxb6630830aFmt
