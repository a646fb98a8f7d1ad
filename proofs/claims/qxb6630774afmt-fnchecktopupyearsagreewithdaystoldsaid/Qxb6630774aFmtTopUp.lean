/-
  DERIVED. THE WALKS OF atMostYears AND CheckTopUp.
-/
import Derived.Test.Qxb6630774aFmtCheck
namespace Go.Proofs.Qxb6630774aFmt
open Go.RowKit Go.Extern.Stop Go.Stop Go.Extern

/-- Does a tenor run for at most ten years? -/
def fitsB (count unit : Int) : Bool := if unit = 68 then decide (count ≤ 3653) else decide (count ≤ 10)

theorem years (count unit : Int) (w : World) :
    Calls Tryf.prog 14 #[.agg #[.int .i64 count, .int .u8 unit], .int .i64 10] w fun e w' => e = .returned (.bool (fitsB count unit)) ∧ Below w.heap.size w w' := by
  by_cases hu : unit = 68
  · have HR : Hid (decide (count ≤ 3653) = fitsB count unit) := by show _ = fitsB count unit; unfold fitsB; rw [if_pos hu]
    have hu' : (unit == 68) = true := by simpa using hu
    clear hu
    go_enter Tryf.func14, Tryf.ntmps14
    go_wp2
    go_ret
    exact ⟨ret_bool HR.out, (Below.refl _ _).alloc (Nat.le_refl _) _⟩
  · have HR : Hid (decide (count ≤ 10) = fitsB count unit) := by show _ = fitsB count unit; unfold fitsB; rw [if_neg hu]
    have hu' : (unit == 68) = false := by simpa using hu
    clear hu
    go_enter Tryf.func14, Tryf.ntmps14
    go_wp2
    go_ret
    exact ⟨ret_bool HR.out, (Below.refl _ _).alloc (Nat.le_refl _) _⟩

/-- Does the notice have a top-up? -/
def topB (t : Option Bool) (count unit : Int) : Bool := match t with
  | some v => v
  | none => fitsB count unit

set_option maxHeartbeats 400000 in
theorem check_some_true (code : ByteArray) (count unit freq : Int) (target method : ByteArray) (amount : Int) (y7 y8 y9 : Option Addr) (tick : Int) (b o : Nat) (w : World)
    (hc : w.cell? ⟨b, o, none⟩ = some (.bool true)) :
    Calls Tryf.prog 9 #[NV code count unit freq target method amount y7 y8 y9 tick (some ⟨b, o, none⟩)] w fun e w' => e = .returned .nilIface ∧ Below w.heap.size w w' := by
  have hlt := block_lt_of_cell hc
  simp only at hlt
  unfold NV
  go_enter Tryf.func9, Tryf.ntmps9
  go_wp2
  go_ret
  exact ⟨rfl, (Below.refl _ _).alloc (Nat.le_refl _) _⟩

set_option maxHeartbeats 400000 in
theorem check_some_false (F : Interp) (code : ByteArray) (count unit freq : Int) (target method : ByteArray) (amount : Int) (y7 y8 y9 : Option Addr) (tick : Int) (b o : Nat) (w : World)
    (hF : F.answers w.tape) (hc : w.cell? ⟨b, o, none⟩ = some (.bool false)) :
    Calls Tryf.prog 9 #[NV code count unit freq target method amount y7 y8 y9 tick (some ⟨b, o, none⟩)] w fun e w' => ∃ a, e = .returned (.iface 48 (.pointer (some a))) ∧ Below w.heap.size w w' := by
  have hlt := block_lt_of_cell hc
  simp only at hlt
  unfold NV
  go_enter Tryf.func9, Tryf.ntmps9
  go_wp2_with fail
  refine (errorf1 F _ code _ _ ?_ ?_ ?_).mono ?_
  · exact hF
  · simp
  · intro w; kernel_rfl
  rintro e w1 ⟨a, rfl, hb⟩
  go_wp2
  go_ret
  exact ⟨a, rfl, (((Below.refl _ _).alloc (Nat.le_refl _) _).alloc (by simp) _).trans (hb.mono (by simp; omega))⟩

set_option maxHeartbeats 400000 in
theorem check_none_true (code : ByteArray) (count unit freq : Int) (target method : ByteArray) (amount : Int) (y7 y8 y9 : Option Addr) (tick : Int) (w : World)
    (hf : fitsB count unit = true) :
    Calls Tryf.prog 9 #[NV code count unit freq target method amount y7 y8 y9 tick none] w fun e w' => e = .returned .nilIface ∧ Below w.heap.size w w' := by
  unfold NV
  go_enter Tryf.func9, Tryf.ntmps9
  go_wp2_with fail
  refine (years _ _ _).mono ?_
  rintro e w1 ⟨rfl, hb⟩
  go_wp2
  go_ret
  exact ⟨rfl, ((Below.refl _ _).alloc (Nat.le_refl _) _).trans (hb.mono (by simp))⟩

set_option maxHeartbeats 400000 in
theorem check_none_false (F : Interp) (code : ByteArray) (count unit freq : Int) (target method : ByteArray) (amount : Int) (y7 y8 y9 : Option Addr) (tick : Int) (w : World)
    (hF : F.answers w.tape) (hf : fitsB count unit = false) :
    Calls Tryf.prog 9 #[NV code count unit freq target method amount y7 y8 y9 tick none] w fun e w' => ∃ a, e = .returned (.iface 48 (.pointer (some a))) ∧ Below w.heap.size w w' := by
  unfold NV
  go_enter Tryf.func9, Tryf.ntmps9
  go_wp2_with fail
  refine (years _ _ _).mono ?_
  rintro e w1 ⟨rfl, hb⟩
  obtain ⟨hc, hf1⟩ := bcell hb
  have hz := hb.size
  simp at hz
  go_wp2_with fail
  refine (errorf4 F _ code count unit 10 _ _ ?_ ?_ ?_ ?_ ?_ ?_).mono ?_
  · rw [show (w1.alloc _).tape = w1.tape from rfl, hb.tape]; exact hF
  · simp
  · simp
  · simp
  · simp
  · intro w; kernel_rfl
  rintro e w2 ⟨a, rfl, hb2⟩
  go_wp2
  go_ret
  exact ⟨a, rfl, ((((Below.refl _ _).alloc (Nat.le_refl _) _).trans (hb.mono (by simp))).alloc (by omega) _).trans (hb2.mono (by simp; omega))⟩

/-- CheckTopUp: where the notice has a top-up. -/
theorem check_yes (code : ByteArray) (count unit freq : Int) (target method : ByteArray) (amount : Int) (y7 y8 y9 : Option Addr) (tick : Int) (y11 : Option Addr) (t : Option Bool) (w : World)
    (hP : PB w y11 t) (h : topB t count unit = true) :
    Calls Tryf.prog 9 #[NV code count unit freq target method amount y7 y8 y9 tick y11] w fun e w' => e = .returned .nilIface ∧ Below w.heap.size w w' := by
  rcases hP with ⟨rfl, rfl⟩ | ⟨b, o, v, rfl, rfl, hc⟩
  · exact check_none_true _ _ _ _ _ _ _ _ _ _ _ _ h
  · have e : v = true := h
    subst e
    exact check_some_true _ _ _ _ _ _ _ _ _ _ _ _ _ _ hc

/-- CheckTopUp: where the notice has none. -/
theorem check_no (F : Interp) (code : ByteArray) (count unit freq : Int) (target method : ByteArray) (amount : Int) (y7 y8 y9 : Option Addr) (tick : Int) (y11 : Option Addr) (t : Option Bool) (w : World)
    (hF : F.answers w.tape) (hP : PB w y11 t) (h : topB t count unit = false) :
    Calls Tryf.prog 9 #[NV code count unit freq target method amount y7 y8 y9 tick y11] w fun e w' => ∃ a, e = .returned (.iface 48 (.pointer (some a))) ∧ Below w.heap.size w w' := by
  rcases hP with ⟨rfl, rfl⟩ | ⟨b, o, v, rfl, rfl, hc⟩
  · exact check_none_false F _ _ _ _ _ _ _ _ _ _ _ _ hF h
  · have e : v = false := h
    subst e
    exact check_some_false F _ _ _ _ _ _ _ _ _ _ _ _ _ _ hF hc

end Go.Proofs.Qxb6630774aFmt
