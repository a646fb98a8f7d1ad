/-
  DERIVED. THE WALK OF FnCheckTopUpYearsAgreeWithDays.
-/
import Derived.Test.Qxb6630774aFmtTopUp
namespace Go.Proofs.Qxb6630774aFmt
open Go.RowKit Go.Extern.Stop Go.Stop Go.Extern

theorem bytes11 (code : ByteArray) (count unit freq : Int) (target method : ByteArray) (amount : Int) (x7 x8 x9 : Option Addr) (tick : Int) (x11 : Option Addr) (w : World)
    (hc : code.size ≤ maxLen) (ht : target.size ≤ maxLen) (hm : method.size ≤ maxLen) :
    Calls Tryf.prog 11 #[.string code, .int .i64 count, .int .u8 unit, .int .i64 freq, .string target, .string method, .int .i64 amount, .pointer x7, .pointer x8, .pointer x9, .int .i64 tick, .pointer x11] w
      fun e w' => ∃ b, e = .returned (.bool b) ∧ w = w' := by
  unfold maxLen at hc ht hm
  go_enter Tryf.func11, Tryf.ntmps11
  go_wp2
  all_goals
    go_ret
    exact ⟨_, rfl, rfl⟩

/-- What stands while the law runs: the copies of its pointers. -/
structure Su (F : Interp) (w : World) (y7 y8 y9 y11 : Option Addr) (t : Option Bool) (W : World) : Prop where
  p7 : PI W y7
  p8 : PI W y8
  p9 : PI W y9
  p11 : PB W y11 t
  below : Below w.heap.size w W
  tape : F.answers W.tape

theorem Su.later {F : Interp} {w : World} {y7 y8 y9 y11 : Option Addr} {t : Option Bool} {W : World} {W' : World} (h : Su F w y7 y8 y9 y11 t W) (hb : Below W.heap.size W W') : Su F w y7 y8 y9 y11 t W' :=
  ⟨h.p7.later hb, h.p8.later hb, h.p9.later hb, h.p11.later hb, h.below.trans (hb.mono h.below.size), by rw [hb.tape]; exact h.tape⟩

theorem notice_su {F : Interp} {w : World} {y7 y8 y9 y11 : Option Addr} {t : Option Bool} {W : World} (h : Su F w y7 y8 y9 y11 t W)
    (code : ByteArray) (count unit freq : Int) (target method : ByteArray) (amount tick : Int) :
    Calls Tryf.prog 10 #[.string code, .int .i64 count, .int .u8 unit, .int .i64 freq, .string target, .string method, .int .i64 amount, .pointer y7, .pointer y8, .pointer y9, .int .i64 tick, .pointer y11] W
      fun e w' => ∃ z7 z8 z9 z11, e = .returned (NV code count unit freq target method amount z7 z8 z9 tick z11) ∧ PB w' z11 t ∧ Su F w y7 y8 y9 y11 t w' :=
  (notice code count unit freq target method amount y7 y8 y9 tick y11 t W h.p7 h.p8 h.p9 h.p11).mono fun _ _ ⟨z7, z8, z9, z11, he, hp, hb⟩ => ⟨z7, z8, z9, z11, he, hp, h.later hb⟩

theorem check_yes_su {F : Interp} {w : World} {y7 y8 y9 y11 : Option Addr} {t : Option Bool} {W : World} {x : Option Addr} (h : Su F w y7 y8 y9 y11 t W) (hx : PB W x t)
    (code : ByteArray) (count unit freq : Int) (target method : ByteArray) (amount : Int) (z7 z8 z9 : Option Addr) (tick : Int) (ht : topB t count unit = true) :
    Calls Tryf.prog 9 #[NV code count unit freq target method amount z7 z8 z9 tick x] W fun e w' => e = .returned .nilIface ∧ Su F w y7 y8 y9 y11 t w' :=
  (check_yes code count unit freq target method amount z7 z8 z9 tick x t W hx ht).mono fun _ _ ⟨he, hb⟩ => ⟨he, h.later hb⟩

theorem check_no_su {F : Interp} {w : World} {y7 y8 y9 y11 : Option Addr} {t : Option Bool} {W : World} {x : Option Addr} (h : Su F w y7 y8 y9 y11 t W) (hx : PB W x t)
    (code : ByteArray) (count unit freq : Int) (target method : ByteArray) (amount : Int) (z7 z8 z9 : Option Addr) (tick : Int) (ht : topB t count unit = false) :
    Calls Tryf.prog 9 #[NV code count unit freq target method amount z7 z8 z9 tick x] W fun e w' => ∃ c, e = .returned (.iface 48 (.pointer (some c))) ∧ Su F w y7 y8 y9 y11 t w' :=
  (check_no F code count unit freq target method amount z7 z8 z9 tick x t W h.tape hx ht).mono fun _ _ ⟨c, he, hb⟩ => ⟨c, he, h.later hb⟩

/-- The longest span of a count of years: at most 3653 days just when the count is at most 10. -/
theorem days_int (count : Int) (w : World) (h0 : 0 ≤ count) (h1 : count ≤ 1099511627776) :
    Calls Tryf.prog 8 #[.int .i64 count] w fun e w' => ∃ D : Int, e = .returned (.int .i64 D) ∧ (D ≤ 3653 ↔ count ≤ 10) ∧ Below w.heap.size w w' := by
  have h := days_any count.toNat w (by omega)
  rw [show ((count.toNat : Nat) : Int) = count by omega] at h
  refine h.mono fun e w' ⟨he, hb⟩ => ⟨_, he, ?_, hb⟩
  have hd := maxDays_le count.toNat
  constructor
  · intro h1
    have := hd.1 (by omega)
    omega
  · intro h1
    have := hd.2 (by omega)
    omega

/-- Years and days agree. -/
theorem agree (count : Int) (unit D : Int) (hD : D ≤ 3653 ↔ count ≤ 10) (hu : (unit == 68) = false) : topB none count unit = decide (count ≤ 10) ∧ topB none D 68 = decide (count ≤ 10) := by
  have hu' : ¬ unit = 68 := by simpa using hu
  constructor
  · show fitsB count unit = _
    unfold fitsB
    rw [if_neg hu']
  · show fitsB D 68 = _
    unfold fitsB
    rw [if_pos rfl, decide_eq_decide]
    exact hD

set_option maxRecDepth 100000 in
set_option maxHeartbeats 1000000 in
theorem years_any (F : Interp) (code : ByteArray) (count unit freq : Int) (target method : ByteArray) (amount : Int) (x7 x8 x9 : Option Addr) (tick : Int) (x11 : Option Addr) (t : Option Bool) (w : World)
    (hc : code.size ≤ maxLen) (ht : target.size ≤ maxLen) (hm : method.size ≤ maxLen) (hF : F.answers w.tape) (h7 : PI w x7) (h8 : PI w x8) (h9 : PI w x9) (h11 : PB w x11 t) :
    Calls Tryf.prog 4 #[.string code, .int .i64 count, .int .u8 unit, .int .i64 freq, .string target, .string method, .int .i64 amount, .pointer x7, .pointer x8, .pointer x9, .int .i64 tick, .pointer x11] w
      fun e w' => e = .returned (.bool true) ∧ Below w.heap.size w w' := by
  go_enter Tryf.func4, Tryf.ntmps4
  go_wp2_with fail
  refine (bytes11 _ _ _ _ _ _ _ _ _ _ _ _ _ hc ht hm).mono ?_
  rintro e w' ⟨b, rfl, rfl⟩
  unfold maxLen at hc ht hm
  cases b
  · go_wp2_with fail
    go_ret
    exact ⟨rfl, Below.refl _ _⟩
  by_cases hout : count < 0 ∨ 1099511627776 < count
  · rcases hout with hout | hout
    all_goals
      go_wp2_with fail
      all_goals
        go_ret
        exact ⟨rfl, Below.refl _ _⟩
  have hi : count ≤ 1099511627776 := by omega
  have h0i : 0 ≤ count := by omega
  clear hout
  by_cases hu : unit = 68
  · have hu' : (unit == 68) = true := by simpa using hu
    go_wp2_with fail
    all_goals
      go_ret
      exact ⟨rfl, Below.refl _ _⟩
  have hu' : (unit == 68) = false := by simpa using hu
  clear hu
  go_wp2_with fail
  · go_ret
    exact ⟨rfl, Below.refl _ _⟩
  · go_ret
    exact ⟨rfl, Below.refl _ _⟩
  · go_ret
    exact ⟨rfl, Below.refl _ _⟩
  refine (copyI _ _ h7).mono ?_
  rintro e w1 ⟨y7, rfl, p7, hb1⟩
  go_wp2_with fail
  refine (copyI _ _ (h8.later hb1)).mono ?_
  rintro e w2 ⟨y8, rfl, p8, hb2⟩
  have hb2' := hb1.trans (hb2.mono hb1.size)
  go_wp2_with fail
  refine (copyI _ _ (h9.later hb2')).mono ?_
  rintro e w3 ⟨y9, rfl, p9, hb3⟩
  have hb3' := hb2'.trans (hb3.mono hb2'.size)
  go_wp2_with fail
  refine (copyB _ t _ (h11.later hb3')).mono ?_
  rintro e w4 ⟨y11, rfl, p11, _, hb4⟩
  have hb4' := hb3'.trans (hb4.mono hb3'.size)
  have hS4 : Su F w y7 y8 y9 y11 t w4 := ⟨((p7.later hb2).later hb3).later hb4, (p8.later hb3).later hb4, p9.later hb4, p11, hb4', by rw [hb4'.tape]; exact hF⟩
  clear hb1 hb2 hb3 hb4 hb2' hb3' hb4' p7 p8 p9 p11 h7 h8 h9 h11 hc ht hm
  go_wp2_with fail
  refine (days_int count _ h0i hi).mono ?_
  rintro e w5 ⟨D, rfl, hD, hb5⟩
  have hS := hS4.later hb5
  obtain ⟨k1, k2⟩ := agree count unit D hD hu'
  have g1 : Hid (topB none count unit = decide (count ≤ 10)) := k1
  have g2 : Hid (topB none D 68 = decide (count ≤ 10)) := k2
  clear hS4 hb5 k1 k2 hD
  rcases hS.p11 with ⟨rfl, rfl⟩ | ⟨b, o, v, rfl, rfl, hcv⟩
  · by_cases hle : count ≤ 10
    · have h1 : Hid (topB none count unit = true) := g1.out.trans (decide_eq_true hle)
      have h2 : Hid (topB none D 68 = true) := g2.out.trans (decide_eq_true hle)
      clear g1 g2
      go_wp2_with fail
      refine (notice_su hS _ _ _ _ _ _ _ _).mono ?_
      rintro e w6 ⟨z7, z8, z9, z11, rfl, hP, hS6⟩
      go_wp2_with fail
      refine (check_yes_su hS6 hP _ _ _ _ _ _ _ _ _ _ _ h1.out).mono ?_
      rintro e w7 ⟨rfl, hS7⟩
      go_wp2_with fail
      refine (notice_su hS7 _ _ _ _ _ _ _ _).mono ?_
      rintro e w8 ⟨z7, z8, z9, z11, rfl, hP, hS8⟩
      go_wp2_with fail
      refine (check_yes_su hS8 hP _ _ _ _ _ _ _ _ _ _ _ h2.out).mono ?_
      rintro e w9 ⟨rfl, hS9⟩
      go_wp2_with fail
      go_ret
      exact ⟨rfl, hS9.below⟩
    · have h1 : Hid (topB none count unit = false) := g1.out.trans (decide_eq_false hle)
      have h2 : Hid (topB none D 68 = false) := g2.out.trans (decide_eq_false hle)
      have hle' : decide (count ≤ 10) = false := decide_eq_false hle
      clear g1 g2
      go_wp2_with fail
      refine (notice_su hS _ _ _ _ _ _ _ _).mono ?_
      rintro e w6 ⟨z7, z8, z9, z11, rfl, hP, hS6⟩
      go_wp2_with fail
      refine (check_no_su hS6 hP _ _ _ _ _ _ _ _ _ _ _ h1.out).mono ?_
      rintro e w7 ⟨c0, rfl, hS7⟩
      go_wp2_with fail
      refine (notice_su hS7 _ _ _ _ _ _ _ _).mono ?_
      rintro e w8 ⟨z7, z8, z9, z11, rfl, hP, hS8⟩
      go_wp2_with fail
      refine (check_no_su hS8 hP _ _ _ _ _ _ _ _ _ _ _ h2.out).mono ?_
      rintro e w9 ⟨c1, rfl, hS9⟩
      go_wp2_with fail
      go_ret
      exact ⟨rfl, hS9.below⟩
  · have hbo := block_lt_of_cell hcv
    clear g1 g2
    cases v
    · have h1 : Hid (topB (some false) count unit = false) := rfl
      have h2 : Hid (topB (some false) D 68 = false) := rfl
      go_wp2_with fail
      refine (notice_su hS _ _ _ _ _ _ _ _).mono ?_
      rintro e w6 ⟨z7, z8, z9, z11, rfl, hP, hS6⟩
      go_wp2_with fail
      refine (check_no_su hS6 hP _ _ _ _ _ _ _ _ _ _ _ h1.out).mono ?_
      rintro e w7 ⟨c0, rfl, hS7⟩
      go_wp2_with fail
      refine (notice_su hS7 _ _ _ _ _ _ _ _).mono ?_
      rintro e w8 ⟨z7, z8, z9, z11, rfl, hP, hS8⟩
      go_wp2_with fail
      refine (check_no_su hS8 hP _ _ _ _ _ _ _ _ _ _ _ h2.out).mono ?_
      rintro e w9 ⟨c1, rfl, hS9⟩
      go_wp2_with fail
      go_ret
      exact ⟨rfl, hS9.below⟩
    · have h1 : Hid (topB (some true) count unit = true) := rfl
      have h2 : Hid (topB (some true) D 68 = true) := rfl
      go_wp2_with fail
      refine (notice_su hS _ _ _ _ _ _ _ _).mono ?_
      rintro e w6 ⟨z7, z8, z9, z11, rfl, hP, hS6⟩
      go_wp2_with fail
      refine (check_yes_su hS6 hP _ _ _ _ _ _ _ _ _ _ _ h1.out).mono ?_
      rintro e w7 ⟨rfl, hS7⟩
      go_wp2_with fail
      refine (notice_su hS7 _ _ _ _ _ _ _ _).mono ?_
      rintro e w8 ⟨z7, z8, z9, z11, rfl, hP, hS8⟩
      go_wp2_with fail
      refine (check_yes_su hS8 hP _ _ _ _ _ _ _ _ _ _ _ h2.out).mono ?_
      rintro e w9 ⟨rfl, hS9⟩
      go_wp2_with fail
      go_ret
      exact ⟨rfl, hS9.below⟩

end Go.Proofs.Qxb6630774aFmt
