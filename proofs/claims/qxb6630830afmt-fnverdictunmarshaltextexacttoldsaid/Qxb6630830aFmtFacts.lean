/-
  DERIVED. THE CLOSED FACTS FOR A WALK OVER fmt's STOPPED FRONT 'fmt.errorf' (A STOP THAT CALLS) IN THIS DUMP (after the guide's LevelsFmt.lean and ColorFmt.lean, typed by hand: no tool for it lies here).
-/
import Derived.Test.Qxb6630830aFmtProg
import Derived.Stop.CallBack
import Derived.Stop.IfaceNil
import Derived.Laws.Cells
import Derived.Stop.FmtTextSlices
import GoSem.ClaimData
namespace Go.Proofs
open Go.Extern.Stop Go.Stop Go.Extern

-- fmt.errorf: function 10: a stop that calls
@[go_sem] theorem Tryf.call10 (args : Array Value) (w : World) : (callFunc 10 args).run Tryf.prog w = (FmtCalls.errorf #[9, 34] #[27] args).run Tryf.prog w :=
  run_callFunc_next Tryf.func10 (by kernel_rfl) (by kernel_rfl) (by kernel_rfl) args w

@[go_sem] theorem Tryf.guard (name : String) (w : World) : (FmtStop.guard name).run Tryf.prog w = .ok () w := by kernel_rfl
theorem Tryf.nextTurns : Extern.next FmtCalls.turnsRow = some (FmtCalls.begun #[] #[]) := by kernel_rfl
theorem Tryf.nextReturned : Extern.next FmtCalls.returnedRow = some (FmtCalls.returned #[] #[]) := by kernel_rfl

-- "%q is not %q or %q", 3 operands
@[go_sem] theorem Tryf.fmt0r (w : World) : (FmtDoors.printed ⟨#[37, 113, 32, 105, 115, 32, 110, 111, 116, 32, 37, 113, 32, 111, 114, 32, 37, 113]⟩ 3).run Tryf.prog w = .ok [(0, 113, false), (1, 113, false), (2, 113, false)] w := by kernel_rfl

-- type 24: moniker.Verdict
@[go_sem] theorem Tryf.act24_113w (name : String) (x : Value) (w : World) : (FmtCalls.act name true 113 false (.iface 24 x)).run Tryf.prog w = .ok (.call false) w := by kernel_rfl
@[go_sem] theorem Tryf.isString24 (w : World) : (FmtDoors.textMethod 24 "String").run Tryf.prog w = .ok true w := by kernel_rfl
theorem Tryf.invokeString24 (x : Value) (w : World) : (invoke (.fn (.method "String") #[]) #[.iface 24 x]).run Tryf.prog w = .ok (.enter 6 #[x]) w := by kernel_rfl
@[go_sem] theorem Tryf.str24 (w : World) : (typeStr 24).run Tryf.prog w = .ok "moniker.Verdict" w := by kernel_rfl
-- type 22: []uint8
@[go_sem] theorem Tryf.act22_113w (name : String) (x : Value) (w : World) : (FmtCalls.act name true 113 false (.iface 22 x)).run Tryf.prog w = .ok (.closed true) w := by kernel_rfl

@[go_sem] theorem Tryf.ptr37 (w : World) : (FmtStop.ptrTo "errors.errorString").run Tryf.prog w = .ok 37 w := by kernel_rfl
@[go_sem] theorem Tryf.elem37 (w : World) : (elemOf 37).run Tryf.prog w = .ok 39 w := by kernel_rfl

theorem Tryf.value5 (name : String) (x : Int) (w : World) : (FmtStop.value name FmtStop.depth 5 [.int .u8 x]).run Tryf.prog w = .ok (digits 8 (x % 2 ^ 64).toNat) w := by kernel_rfl

theorem Tryf.values5 (name : String) (w : World) : ∀ xs : List Int, (List.mapM ((fun c => FmtStop.value name FmtStop.depth 5 [c]) ∘ Value.int IntKind.u8) xs).run Tryf.prog w = .ok (xs.map fun x => digits 8 (x % 18446744073709551616).toNat) w
  | [] => by simp [List.mapM_nil]
  | x :: xs => by
    have ih := Tryf.values5 name w xs
    have h := Tryf.value5 name x w
    simp [List.mapM_cons, h, ih, Result.andThen]

/-- A slice of bytes that lies in memory, as an operand under %q. -/
theorem Tryf.opBytes_113w (name : String) (a : Addr) (cap : Nat) (xs : List Int) (w : World) (hc : ∀ j v, (xs.map (Value.int .u8))[j]? = some v → w.cell? (a.add j) = some v) :
    (FmtStop.operand name true 113 false (.iface 22 (.slice (some a) xs.length cap))).run Tryf.prog w = .ok (13 :: (FmtStop.pack Tryf.t22.str.toUTF8.data.toList ++ 6 :: FmtStop.pack "uint8".toUTF8.data.toList), 1 :: (digits 8 xs.length ++ FmtText.intValues xs)) w := by
  have h1 : (typeStr 22).run Tryf.prog w = .ok Tryf.t22.str w := by kernel_rfl
  have d2 : Tryf.t22.desc = .slice 5 := rfl
  have hb : (FmtStop.bare (FmtStop.asked true 113 false) 22).run Tryf.prog w = .ok true w := by kernel_rfl
  have hs : (FmtStop.scalar 5).run Tryf.prog w = .ok true w := by kernel_rfl
  have hy : (Extern.Stop.isByte 5).run Tryf.prog w = .ok true w := by kernel_rfl
  have hw : Tryf.prog.funcs.any (·.name == FmtStop.writeWord) = true := by kernel_rfl
  have hsh : (FmtStop.shape name (FmtStop.asked true 113 false) FmtStop.depth 5).run Tryf.prog w = .ok (6 :: FmtStop.pack "uint8".toUTF8.data.toList) w := by kernel_rfl
  have hl := run_loadCells_list (P := Tryf.prog) w a (xs.map (Value.int .u8)) hc
  rw [List.length_map] at hl
  simp [FmtStop.operand, h1, hb, hs, hy, hsh, hl, Tryf.values5, FmtText.intValues]
  intro hno
  obtain ⟨i, hi, _, _, he⟩ := Array.any_iff_exists.1 hw
  exact absurd (by simpa using he) (hno i hi)

/-- nil, as an operand under %q. -/
theorem Tryf.opNil_113w (name : String) (w : World) : (FmtStop.operand name true 113 false (.iface 22 (.slice none 0 0))).run Tryf.prog w = .ok (13 :: (FmtStop.pack Tryf.t22.str.toUTF8.data.toList ++ 6 :: FmtStop.pack "uint8".toUTF8.data.toList), [0]) w := by kernel_rfl

end Go.Proofs
