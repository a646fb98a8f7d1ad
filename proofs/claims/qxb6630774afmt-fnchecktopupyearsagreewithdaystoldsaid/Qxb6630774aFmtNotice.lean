/-
  DERIVED. THE WALKS OF zzCopyI64, zzCopyBool, zzDecPtr, zzNotice, CheckTopUp.
-/
import Derived.Test.Qxb6630774aFmtFacts
import Derived.Test.Qxb6630774aFmtDays
namespace Go.Proofs.Qxb6630774aFmt
open Go.RowKit Go.Extern.Stop Go.Stop Go.Extern

/-- A pointer to an int64: nil, or a cell that holds one. -/
def PI (w : World) (x : Option Addr) : Prop := x = none ∨ ∃ b o n, x = some ⟨b, o, none⟩ ∧ w.cell? ⟨b, o, none⟩ = some (.int .i64 n)
/-- A pointer to a bool, and what it leads to. -/
def PB (w : World) (x : Option Addr) (t : Option Bool) : Prop := (t = none ∧ x = none) ∨ ∃ b o v, t = some v ∧ x = some ⟨b, o, none⟩ ∧ w.cell? ⟨b, o, none⟩ = some (.bool v)

theorem PI.later {w w' : World} {x : Option Addr} (h : PI w x) (hb : Below w.heap.size w w') : PI w' x := by
  rcases h with h | ⟨b, o, n, hx, hc⟩
  · exact Or.inl h
  · exact Or.inr ⟨b, o, n, hx, (hb.cell (block_lt_of_cell hc)).trans hc⟩

theorem PB.later {w w' : World} {x : Option Addr} {t : Option Bool} (h : PB w x t) (hb : Below w.heap.size w w') : PB w' x t := by
  rcases h with h | ⟨b, o, v, ht, hx, hc⟩
  · exact Or.inl h
  · exact Or.inr ⟨b, o, v, ht, hx, (hb.cell (block_lt_of_cell hc)).trans hc⟩

theorem copyI (x : Option Addr) (w : World) (h : PI w x) :
    Calls Tryf.prog 6 #[.pointer x] w fun e w' => ∃ y, e = .returned (.pointer y) ∧ PI w' y ∧ Below w.heap.size w w' := by
  rcases h with rfl | ⟨b, o, n, rfl, hc⟩
  · go_enter Tryf.func6, Tryf.ntmps6
    go_wp2
    go_ret
    exact ⟨none, rfl, Or.inl rfl, Below.refl _ _⟩
  · go_enter Tryf.func6, Tryf.ntmps6
    go_wp2
    go_ret
    exact ⟨_, rfl, Or.inr ⟨_, _, n, rfl, by simp⟩, (Below.refl _ _).alloc (Nat.le_refl _) _⟩

theorem copyB (x : Option Addr) (t : Option Bool) (w : World) (h : PB w x t) :
    Calls Tryf.prog 7 #[.pointer x] w fun e w' => ∃ y, e = .returned (.pointer y) ∧ PB w' y t ∧ (∀ a, y = some a → w.heap.size ≤ a.block) ∧ Below w.heap.size w w' := by
  rcases h with ⟨rfl, rfl⟩ | ⟨b, o, v, rfl, rfl, hc⟩
  · go_enter Tryf.func7, Tryf.ntmps7
    go_wp2
    go_ret
    exact ⟨none, rfl, Or.inl ⟨rfl, rfl⟩, (fun _ h => by cases h), Below.refl _ _⟩
  · go_enter Tryf.func7, Tryf.ntmps7
    go_wp2
    go_ret
    exact ⟨_, rfl, Or.inr ⟨_, _, v, rfl, rfl, by simp⟩, (fun _ h => by cases h; exact Nat.le_refl _), (Below.refl _ _).alloc (Nat.le_refl _) _⟩

theorem decPtr (x : Option Addr) (w : World) (h : PI w x) :
    Calls Tryf.prog 15 #[.pointer x] w fun e w' => ∃ y, e = .returned (.pointer y) ∧ Below w.heap.size w w' := by
  rcases h with rfl | ⟨b, o, n, rfl, hc⟩
  · go_enter Tryf.func15, Tryf.ntmps15
    go_wp2
    go_ret
    exact ⟨none, rfl, Below.refl _ _⟩
  · go_enter Tryf.func15, Tryf.ntmps15
    go_wp2
    go_ret
    exact ⟨_, rfl, (Below.refl _ _).alloc (Nat.le_refl _) _⟩

/-- fmt.Errorf of one string. -/
theorem errorf1 (F : Interp) (f s : ByteArray) (b : Nat) (w : World) (hF : F.answers w.tape) (hc : w.cell? ⟨b, 0, none⟩ = some (.iface 9 (.string s)))
    (hp : ∀ w, (FmtDoors.printed f 1).run Tryf.prog w = .ok [(0, 115, false)] w) :
    Calls Tryf.prog 13 #[.string f, .slice (some ⟨b, 0, none⟩) 1 1] w fun e w' => ∃ a, e = .returned (.iface 48 (.pointer (some a))) ∧ Below w.heap.size w w' := by
  have hF' := answers_open hF
  go_enter Tryf.func13, Tryf.ntmps13
  go_wp2
  go_ret
  exact ⟨_, rfl, ((Below.refl _ _).alloc (Nat.le_refl _) _).drew⟩

/-- fmt.Errorf of a string, a count, a unit, a count. -/
theorem errorf4 (F : Interp) (f s : ByteArray) (n u m : Int) (b : Nat) (w : World) (hF : F.answers w.tape) (hc0 : w.cell? ⟨b, 0, none⟩ = some (.iface 9 (.string s)))
    (hc1 : w.cell? ⟨b, 1, none⟩ = some (.iface 3 (.int .i64 n))) (hc2 : w.cell? ⟨b, 2, none⟩ = some (.iface 31 (.int .u8 u))) (hc3 : w.cell? ⟨b, 3, none⟩ = some (.iface 3 (.int .i64 m)))
    (hp : ∀ w, (FmtDoors.printed f 4).run Tryf.prog w = .ok [(0, 115, false), (1, 100, false), (2, 99, false), (3, 100, false)] w) :
    Calls Tryf.prog 13 #[.string f, .slice (some ⟨b, 0, none⟩) 4 4] w fun e w' => ∃ a, e = .returned (.iface 48 (.pointer (some a))) ∧ Below w.heap.size w w' := by
  have hF' := answers_open hF
  go_enter Tryf.func13, Tryf.ntmps13
  go_wp2
  go_ret
  exact ⟨_, rfl, ((Below.refl _ _).alloc (Nat.le_refl _) _).drew⟩

end Go.Proofs.Qxb6630774aFmt
