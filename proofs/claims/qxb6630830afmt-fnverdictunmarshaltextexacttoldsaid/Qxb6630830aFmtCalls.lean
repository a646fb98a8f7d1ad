/-
  DERIVED. THE WALKS OF (Verdict).String AT THE TWO KNOWN VERDICTS, OF fmt.Errorf AT THE ONE FORMAT.
-/
import Derived.Test.Qxb6630830aFmtFacts
import Derived.Laws.IdiomStrings
import Derived.Lib.UnsafeStr
import Derived.WalkKit
import Derived.WalkSpells
import Derived.WalkSmall
import Derived.Deep.QuietTactic
import Derived.BigQuiet
namespace Go.Proofs.Qxb6630830aFmt
open Go.RowKit Go.Extern.Stop Go.Stop Go.Extern
open Go.Lib (byteCells byteCells_length)

def noS : ByteArray := ⟨#[110, 111, 32, 109, 97, 116, 99, 104]⟩
def yesS : ByteArray := ⟨#[109, 97, 116, 99, 104]⟩

theorem string0 (w : World) : Calls Tryf.prog 6 #[.int .i64 0] w fun e w' => e = .returned (.string noS) ∧ w' = w := by
  go_enter Tryf.func6, Tryf.ntmps6
  go_wp2
  go_ret
  exact ⟨rfl, rfl⟩

theorem string1 (w : World) : Calls Tryf.prog 6 #[.int .i64 1] w fun e w' => e = .returned (.string yesS) ∧ w' = w := by
  go_enter Tryf.func6, Tryf.ntmps6
  go_wp2
  go_ret
  exact ⟨rfl, rfl⟩

set_option maxHeartbeats 800000 in
/-- fmt.Errorf("%q is not %q or %q", text, Match, NoMatch). -/
theorem errorf_c (F : Interp) (tv : Value) (blk : Nat) (sh vl : List UInt8) (w : World) (hF : F.answers w.tape)
    (hc0 : w.cell? ⟨blk, 0, none⟩ = some (.iface 22 tv)) (hc1 : w.cell? ⟨blk, 1, none⟩ = some (.iface 24 (.int .i64 1))) (hc2 : w.cell? ⟨blk, 2, none⟩ = some (.iface 24 (.int .i64 0)))
    (hop : ∀ name, (FmtStop.operand name true 113 false (.iface 22 tv)).run Tryf.prog w = .ok (sh, vl) w) :
    Calls Tryf.prog 9 #[.string ⟨#[37, 113, 32, 105, 115, 32, 110, 111, 116, 32, 37, 113, 32, 111, 114, 32, 37, 113]⟩, .slice (some ⟨blk, 0, none⟩) 3 3] w fun e w' =>
      (∃ a, e = .returned (.iface 37 (.pointer (some a)))) ∧ Below w.heap.size w w' := by
  have hF' := answers_open hF
  go_enter Tryf.func9, Tryf.ntmps9
  go_wp2
  apply rows_call Tryf.nextTurns
  case hr =>
    go_simp
    exact ⟨⟨rfl, rfl, rfl⟩, rfl⟩
  case hi => exact Tryf.invokeString24 _ _
  case hc =>
    refine (string1 _).mono fun e w₃ ⟨he, hx⟩ => ?_
    subst he; subst hx
    apply rows_call Tryf.nextReturned
    case hr =>
      go_simp
      exact ⟨⟨rfl, rfl, rfl⟩, rfl⟩
    case hi => exact Tryf.invokeString24 _ _
    case hc =>
      refine (string0 _).mono fun e w₃ ⟨he, hx⟩ => ?_
      subst he; subst hx
      apply rows_value Tryf.nextReturned
      case hr =>
        go_simp
        exact ⟨rfl, rfl⟩
      case h =>
        go_wp2
        go_ret
        exact ⟨⟨_, rfl⟩, ((Below.refl _ _).alloc (Nat.le_refl _) _).drew⟩

end Go.Proofs.Qxb6630830aFmt
