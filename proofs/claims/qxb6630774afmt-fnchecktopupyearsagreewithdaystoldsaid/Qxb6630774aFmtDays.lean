/-
  DERIVED. THE WALKS OF zzIsLeap AND zzMaxDaysIn.
-/
import Derived.Test.Qxb6630774aFmtProg
import Derived.Test.Qxb6630774aFmtPlain
import Derived.WalkKit
import Derived.WalkSpells
import Derived.Deep.QuietTactic
import Derived.BigQuiet
import Derived.WalkSmall
namespace Go.Proofs.Qxb6630774aFmt
open Go.RowKit

theorem ret_bool {a b : Bool} (h : a = b) : Ending.returned (.bool a) = .returned (.bool b) := by rw [h]
theorem ret_int {k : IntKind} {a b : Int} (h : a = b) : Ending.returned (.int k a) = .returned (.int k b) := by rw [h]

theorem leap_any (y : Nat) (w : World) (h : y ≤ 1000) :
    Calls Tryf.prog 12 #[.int .i64 y] w fun e w' => e = .returned (.bool (leapB y)) ∧ w' = w := by
  have H4 : Hid (((y : Int) % 4 == 0) = (y % 4 == 0)) := by
    show ((y : Int) % 4 == 0) = (y % 4 == 0)
    rw [Bool.eq_iff_iff]; simp; omega
  by_cases h1 : y % 400 = 0
  · have e1 : ((y : Int) % 400 == 0) = true := by simp; omega
    have HR : Hid (true = leapB y) := by show true = leapB y; simp [leapB, h1]
    clear h1
    go_enter Tryf.func12, Tryf.ntmps12
    go_wp2
    go_ret
    exact ⟨ret_bool HR.out, rfl⟩
  · have e1 : ((y : Int) % 400 == 0) = false := by simp; omega
    by_cases h2 : y % 100 = 0
    · have e2 : ((y : Int) % 100 == 0) = true := by simp; omega
      have HR : Hid (false = leapB y) := by show false = leapB y; simp [leapB, h1, h2]
      clear h1 h2
      go_enter Tryf.func12, Tryf.ntmps12
      go_wp2
      go_ret
      exact ⟨ret_bool HR.out, rfl⟩
    · have e2 : ((y : Int) % 100 == 0) = false := by simp; omega
      have HR : Hid ((y % 4 == 0) = leapB y) := by
        show (y % 4 == 0) = leapB y
        have b1 : (y % 400 == 0) = false := beq_eq_false_iff_ne.2 h1
        have b2 : (y % 100 == 0) = false := beq_eq_false_iff_ne.2 h2
        unfold leapB; rw [b1, b2]; rfl
      clear h1 h2
      go_enter Tryf.func12, Tryf.ntmps12
      go_wp2
      go_ret
      exact ⟨ret_bool (H4.out.trans HR.out), rfl⟩

/-- The array of noughts that 'var prefix [801]int64' lays. -/
def z801 : Array Value := Array.replicate 801 (.int .i64 0)

theorem run_alloc41 (w : World) : (Instr.alloc 41 true (.tuple #[])).run Tryf.prog w = .ok (.pointer (some ⟨w.heap.size, 0, none⟩)) (w.alloc (.cells z801 41)) := by kernel_rfl

theorem wpList_alloc41 {ops : Array Oper} {rest : List Oper} {o : Oper} {a : Act} {w : World} {Q : Exit → Act → World → Prop} (hgd : o.guard = none) (ho : o.op = .alloc 41)
    (h : wpList Tryf.prog ops Q rest (a.put o.dst (.pointer (some ⟨w.heap.size, 0, none⟩))) (w.alloc (.cells z801 41))) : wpList Tryf.prog ops Q (o :: rest) a w :=
  wpList_plain hgd fun _ hK => by
    unfold Oper.wp execOp
    simp only [ho, run_alloc41, Sem.run_bind, Result.andThen_ok]
    exact hK _ _ h

theorem z801_size : z801.size = 801 := by simp [z801]

theorem z801_zero : z801[0]? = some (.int .i64 0) := by simp [z801]

theorem step_pre (C : Array Value) (k : Nat) (hk : k < 800) (hC : C.size = 801) (h : ∀ j, j ≤ k → C[j]? = some (.int .i64 (pre j : Nat))) (v : Int) (hv : v = (pre (k + 1) : Nat)) :
    ∀ j, j ≤ k + 1 → (C.setIfInBounds (k + 1) (.int .i64 v))[j]? = some (.int .i64 (pre j : Nat)) := by
  intro j hj
  rw [Array.getElem?_setIfInBounds]
  by_cases e : k + 1 = j
  · subst e
    rw [if_pos rfl, if_pos (by omega), hv]
  · rw [if_neg e]
    exact h j (by omega)

set_option maxRecDepth 100000 in
theorem best_up (r m : Nat) (h : (best r m : Int) < (pre (m + r) : Int) - (pre m : Int)) : (pre (m + r) : Int) - (pre m : Int) = (best r (m + 1) : Nat) := by
  have e : best r (m + 1) = if best r m < pre (m + r) - pre m then pre (m + r) - pre m else best r m := rfl
  have hp := pre_add m r
  rw [e, if_pos (by omega)]
  omega

set_option maxRecDepth 100000 in
theorem best_no (r m : Nat) (h : (pre (m + r) : Int) - (pre m : Int) ≤ (best r m : Int)) : ((best r m : Nat) : Int) = (best r (m + 1) : Nat) := by
  have e : best r (m + 1) = if best r m < pre (m + r) - pre m then pre (m + r) - pre m else best r m := rfl
  rw [e, if_neg (by omega)]

theorem maxDays_eq (y : Nat) : (y : Int) / 400 * 146097 + (best (y % 400) 400 : Nat) = (maxDays y : Nat) := by
  unfold maxDays
  omega

set_option maxRecDepth 100000 in
set_option maxHeartbeats 400000 in
theorem days_any (y : Nat) (w : World) (h : y ≤ 1099511627776) :
    Calls Tryf.prog 8 #[.int .i64 y] w fun e w' => e = .returned (.int .i64 (maxDays y : Nat)) ∧ Below w.heap.size w w' := by
  go_enter Tryf.func8, Tryf.ntmps8
  go_wp2_with (first | refine wpList_alloc41 rfl rfl ?_)
  go_loopw [6] (fun i wr => ∃ (k : Nat) (C : Array Value), k ≤ 800 ∧ i = .int .i64 k ∧ Hid (C.size = 801) ∧ wr = w.alloc (.cells C 41) ∧ Hid (∀ j, j ≤ k → C[j]? = some (.int .i64 (pre j : Nat)))) (fun i _ => 800 - (intOf i).toNat)
  case atStart => exact ⟨0, _, Nat.zero_le _, rfl, z801_size, rfl, fun j hj => by obtain rfl := Nat.le_zero.1 hj; exact z801_zero⟩
  case round =>
    obtain ⟨k, C, hk, rfl, hC, rfl, hH⟩ := hrel
    by_cases hlt : k < 800
    · have hp := pre_le k
      have c0 := hH.out k (Nat.le_refl _)
      obtain ⟨v1, c1⟩ : ∃ v, C[k + 1]? = some v := ⟨C[k + 1]'(by rw [hC.out]; omega), by rw [Array.getElem?_eq_getElem]⟩
      cases hl : leapB k
      · have HS : Hid ((pre k : Int) + 365 = (pre (k + 1) : Nat)) := by show (pre k : Int) + 365 = (pre (k + 1) : Nat); simp [pre, dayN, hl]
        go_wp2_with (first | (go_at_call 12; refine (leap_any _ _ (by omega)).mono ?_; rintro e w' ⟨rfl, rfl⟩))
        go_roundw
        case rel => exact ⟨k + 1, _, by omega, by go_num, (Array.size_setIfInBounds).trans hC.out, rfl, step_pre C k hlt hC.out hH.out _ HS.out⟩
        case measure => simp [intOf]; omega
      · have HS : Hid ((pre k : Int) + 366 = (pre (k + 1) : Nat)) := by show (pre k : Int) + 366 = (pre (k + 1) : Nat); simp [pre, dayN, hl]
        go_wp2_with (first | (go_at_call 12; refine (leap_any _ _ (by omega)).mono ?_; rintro e w' ⟨rfl, rfl⟩))
        go_roundw
        case rel => exact ⟨k + 1, _, by omega, by go_num, (Array.size_setIfInBounds).trans hC.out, rfl, step_pre C k hlt hC.out hH.out _ HS.out⟩
        case measure => simp [intOf]; omega
    · go_wp2
      have hH2 : Hid (∀ j, j ≤ 800 → C[j]? = some (.int .i64 (pre j : Nat))) := by
        have e : k = 800 := by omega
        rw [← e]; exact hH.out
      go_loopw [8, 9] (fun b s wr => ∃ (m : Nat) (n : Nat), m ≤ 400 ∧ s = .int .i64 m ∧ b = .int .i64 (best (y % 400) m : Nat) ∧ wr = (w.alloc (.cells C 41)).drewN n) (fun _ s _ => 400 - (intOf s).toNat)
      case atStart => exact ⟨0, 0, Nat.zero_le _, rfl, rfl, rfl⟩
      case round =>
        obtain ⟨m, n, hm, rfl, rfl, rfl⟩ := hrel
        by_cases hlt2 : m < 400
        · have hr : y % 400 < 400 := Nat.mod_lt _ (by omega)
          have c2 := hH2.out m (by omega)
          have c3 := hH2.out (m + y % 400) (by omega)
          have hp2 := pre_add m (y % 400)
          have hp3 := pre_le m
          go_wp2
          go_quiet (fail)
          go_wp2
          all_goals
            go_roundw
            case rel => exact ⟨m + 1, n + nq, by omega, by go_num, congrArg (Value.int .i64) (by first | exact best_up _ _ ‹_› | exact best_no _ _ ‹_›), rfl⟩
            case measure => simp [intOf]; omega
        · have hb := best_le (y % 400) m
          have HM : Hid (m = 400) := by show m = 400; omega
          go_wp2
          go_ret
          exact ⟨ret_int (by rw [HM.out]; exact maxDays_eq y), below_drewN ((Below.refl _ _).alloc (Nat.le_refl _) _) _⟩

end Go.Proofs.Qxb6630774aFmt
