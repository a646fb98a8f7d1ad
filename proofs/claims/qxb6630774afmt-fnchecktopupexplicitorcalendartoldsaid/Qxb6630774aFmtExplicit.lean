/-
  DERIVED. THE WALK OF FnCheckTopUpExplicitOrCalendar.
-/
import Derived.Test.Qxb6630774aFmtTopUp
namespace Go.Proofs.Qxb6630774aFmt
open Go.RowKit Go.Extern.Stop Go.Stop Go.Extern

theorem bytes5 (code : ByteArray) (count unit freq : Int) (target method : ByteArray) (amount : Int) (x7 x8 x9 : Option Addr) (tick : Int) (x11 : Option Addr) (w : World)
    (hc : code.size ≤ maxLen) (ht : target.size ≤ maxLen) (hm : method.size ≤ maxLen) :
    Calls Tryf.prog 5 #[.string code, .int .i64 count, .int .u8 unit, .int .i64 freq, .string target, .string method, .int .i64 amount, .pointer x7, .pointer x8, .pointer x9, .int .i64 tick, .pointer x11] w
      fun e w' => ∃ b, e = .returned (.bool b) ∧ w = w' := by
  unfold maxLen at hc ht hm
  go_enter Tryf.func5, Tryf.ntmps5
  go_wp2
  all_goals
    go_ret
    exact ⟨_, rfl, rfl⟩

theorem days_ten (w : World) : Calls Tryf.prog 8 #[.int .i64 10] w fun e w' => e = .returned (.int .i64 3653) ∧ Below w.heap.size w w' := by
  have h := days_any 10 w (by omega)
  rw [maxDays_ten] at h
  exact h

/-- What stands while the law runs: the copies of its pointers, and three pointers to bools. -/
structure St (F : Interp) (w : World) (y7 y8 y9 y11 : Option Addr) (t : Option Bool) (a b : Option Addr) (W : World) : Prop where
  p7 : PI W y7
  p8 : PI W y8
  p9 : PI W y9
  p11 : PB W y11 t
  pa : PB W a (some true)
  pb : PB W b (some false)
  below : Below w.heap.size w W
  tape : F.answers W.tape

theorem St.later {F : Interp} {w : World} {y7 y8 y9 y11 : Option Addr} {t : Option Bool} {a b : Option Addr} {W W' : World} (h : St F w y7 y8 y9 y11 t a b W) (hb : Below W.heap.size W W') : St F w y7 y8 y9 y11 t a b W' :=
  ⟨h.p7.later hb, h.p8.later hb, h.p9.later hb, h.p11.later hb, h.pa.later hb, h.pb.later hb, h.below.trans (hb.mono h.below.size), by rw [hb.tape]; exact h.tape⟩

theorem notice_st {F : Interp} {w : World} {y7 y8 y9 y11 : Option Addr} {t : Option Bool} {a b : Option Addr} {W : World} {x : Option Addr} {u : Option Bool} (h : St F w y7 y8 y9 y11 t a b W) (hx : PB W x u)
    (code : ByteArray) (count unit freq : Int) (target method : ByteArray) (amount tick : Int) :
    Calls Tryf.prog 10 #[.string code, .int .i64 count, .int .u8 unit, .int .i64 freq, .string target, .string method, .int .i64 amount, .pointer y7, .pointer y8, .pointer y9, .int .i64 tick, .pointer x] W
      fun e w' => ∃ z7 z8 z9 z11, e = .returned (NV code count unit freq target method amount z7 z8 z9 tick z11) ∧ PB w' z11 u ∧ St F w y7 y8 y9 y11 t a b w' :=
  (notice code count unit freq target method amount y7 y8 y9 tick x u W h.p7 h.p8 h.p9 hx).mono fun _ _ ⟨z7, z8, z9, z11, he, hp, hb⟩ => ⟨z7, z8, z9, z11, he, hp, h.later hb⟩

theorem check_yes_st {F : Interp} {w : World} {y7 y8 y9 y11 : Option Addr} {t : Option Bool} {a b : Option Addr} {W : World} {x : Option Addr} {u : Option Bool} (h : St F w y7 y8 y9 y11 t a b W) (hx : PB W x u)
    (code : ByteArray) (count unit freq : Int) (target method : ByteArray) (amount : Int) (z7 z8 z9 : Option Addr) (tick : Int) (ht : topB u count unit = true) :
    Calls Tryf.prog 9 #[NV code count unit freq target method amount z7 z8 z9 tick x] W fun e w' => e = .returned .nilIface ∧ St F w y7 y8 y9 y11 t a b w' :=
  (check_yes code count unit freq target method amount z7 z8 z9 tick x u W hx ht).mono fun _ _ ⟨he, hb⟩ => ⟨he, h.later hb⟩

theorem check_no_st {F : Interp} {w : World} {y7 y8 y9 y11 : Option Addr} {t : Option Bool} {a b : Option Addr} {W : World} {x : Option Addr} {u : Option Bool} (h : St F w y7 y8 y9 y11 t a b W) (hx : PB W x u)
    (code : ByteArray) (count unit freq : Int) (target method : ByteArray) (amount : Int) (z7 z8 z9 : Option Addr) (tick : Int) (ht : topB u count unit = false) :
    Calls Tryf.prog 9 #[NV code count unit freq target method amount z7 z8 z9 tick x] W fun e w' => ∃ c, e = .returned (.iface 48 (.pointer (some c))) ∧ St F w y7 y8 y9 y11 t a b w' :=
  (check_no F code count unit freq target method amount z7 z8 z9 tick x u W h.tape hx ht).mono fun _ _ ⟨c, he, hb⟩ => ⟨c, he, h.later hb⟩

theorem st_start {F : Interp} {w : World} {y7 y8 y9 y11 : Option Addr} {t : Option Bool} {v : World} (q7 : PI v y7) (q8 : PI v y8) (q9 : PI v y9) (p11 : PB v y11 t) (hb : Below w.heap.size w v) (hF : F.answers v.tape) :
    St F w y7 y8 y9 y11 t (some ⟨v.heap.size, 0, none⟩) (some ⟨v.heap.size + 1, 0, none⟩) ((v.alloc (.cells #[.bool true] 4)).alloc (.cells #[.bool false] 4)) := by
  have hl : Below v.heap.size v ((v.alloc (.cells #[.bool true] 4)).alloc (.cells #[.bool false] 4)) := ((Below.refl _ _).alloc (Nat.le_refl _) _).alloc (by simp) _
  exact ⟨q7.later hl, q8.later hl, q9.later hl, p11.later hl, Or.inr ⟨_, _, true, rfl, rfl, by simp⟩, Or.inr ⟨_, _, false, rfl, rfl, by simp⟩, hb.trans (hl.mono hb.size), hF⟩

set_option maxHeartbeats 1000000 in
theorem explicit_any (F : Interp) (code : ByteArray) (count unit freq : Int) (target method : ByteArray) (amount : Int) (x7 x8 x9 : Option Addr) (tick : Int) (x11 : Option Addr) (t : Option Bool) (w : World)
    (hc : code.size ≤ maxLen) (ht : target.size ≤ maxLen) (hm : method.size ≤ maxLen) (hF : F.answers w.tape) (h7 : PI w x7) (h8 : PI w x8) (h9 : PI w x9) (h11 : PB w x11 t) :
    Calls Tryf.prog 3 #[.string code, .int .i64 count, .int .u8 unit, .int .i64 freq, .string target, .string method, .int .i64 amount, .pointer x7, .pointer x8, .pointer x9, .int .i64 tick, .pointer x11] w
      fun e w' => e = .returned (.bool true) ∧ Below w.heap.size w w' := by
  go_enter Tryf.func3, Tryf.ntmps3
  go_wp2_with fail
  refine (bytes5 _ _ _ _ _ _ _ _ _ _ _ _ _ hc ht hm).mono ?_
  rintro e w' ⟨b, rfl, rfl⟩
  unfold maxLen at hc ht hm
  cases b
  · go_wp2_with fail
    go_ret
    exact ⟨rfl, Below.refl _ _⟩
  go_wp2_with fail
  · go_ret
    exact ⟨rfl, Below.refl _ _⟩
  · go_ret
    exact ⟨rfl, Below.refl _ _⟩
  · go_ret
    exact ⟨rfl, Below.refl _ _⟩
  refine (copyI _ _ h7).mono ?_
  rintro e w1 ⟨y7, rfl, p7, hb1⟩
  go_wp2_with fail
  refine (copyI _ _ (h8.later hb1)).mono ?_
  rintro e w2 ⟨y8, rfl, p8, hb2⟩
  have hb2' := hb1.trans (hb2.mono hb1.size)
  go_wp2_with fail
  refine (copyI _ _ (h9.later hb2')).mono ?_
  rintro e w3 ⟨y9, rfl, p9, hb3⟩
  have hb3' := hb2'.trans (hb3.mono hb2'.size)
  go_wp2_with fail
  refine (copyB _ t _ (h11.later hb3')).mono ?_
  rintro e w4 ⟨y11, rfl, p11, _, hb4⟩
  have hb4' := hb3'.trans (hb4.mono hb3'.size)
  have q7 := ((p7.later hb2).later hb3).later hb4
  have q8 := (p8.later hb3).later hb4
  have q9 := p9.later hb4
  have hF4 : F.answers w4.tape := by rw [hb4'.tape]; exact hF
  clear hb1 hb2 hb3 hb4 hb2' hb3' p7 p8 p9 h7 h8 h9 h11 hc ht hm
  rcases p11 with ⟨rfl, rfl⟩ | ⟨b, o, v, rfl, rfl, hcv⟩
  · have hPn : PB w4 none none := Or.inl ⟨rfl, rfl⟩
    by_cases hu : unit = 68
    · have hu' : (unit == 68) = true := by simpa using hu
      by_cases hle : count ≤ 3653
      · have htop : Hid (topB none count unit = true) := by show fitsB count unit = true; unfold fitsB; rw [if_pos hu]; exact decide_eq_true hle
        clear hu
        go_wp2_with fail
        refine (days_ten _).mono ?_
        rintro e w5 ⟨rfl, hb5⟩
        have hS := st_start (q7.later hb5) (q8.later hb5) (q9.later hb5) (hPn.later hb5) (hb4'.trans (hb5.mono hb4'.size)) (by rw [hb5.tape]; exact hF4)
        clear q7 q8 q9 hPn hb5 hb4' hF4
        go_wp2_with fail
        refine (notice_st hS hS.p11 _ _ _ _ _ _ _ _).mono ?_
        rintro e w6 ⟨z7, z8, z9, z11, rfl, hP6, hS6⟩
        go_wp2_with fail
        refine (check_yes_st hS6 hP6 _ _ _ _ _ _ _ _ _ _ _ htop.out).mono ?_
        rintro e w7 ⟨rfl, hS7⟩
        go_wp2_with fail
        refine (notice_st hS7 hS7.pa _ _ _ _ _ _ _ _).mono ?_
        rintro e w8 ⟨z7, z8, z9, z11, rfl, hP8, hS8⟩
        go_wp2_with fail
        refine (check_yes_st hS8 hP8 _ _ _ _ _ _ _ _ _ _ _ rfl).mono ?_
        rintro e w9 ⟨rfl, hS9⟩
        go_wp2_with fail
        refine (notice_st hS9 hS9.pb _ _ _ _ _ _ _ _).mono ?_
        rintro e w10 ⟨z7, z8, z9, z11, rfl, hP10, hS10⟩
        go_wp2_with fail
        refine (check_no_st hS10 hP10 _ _ _ _ _ _ _ _ _ _ _ rfl).mono ?_
        rintro e w11 ⟨c, rfl, hS11⟩
        go_wp2_with fail
        go_ret
        exact ⟨rfl, hS11.below⟩
      · have htop : Hid (topB none count unit = false) := by show fitsB count unit = false; unfold fitsB; rw [if_pos hu]; exact decide_eq_false hle
        have hle' : decide (count ≤ 3653) = false := decide_eq_false hle
        clear hu
        go_wp2_with fail
        refine (days_ten _).mono ?_
        rintro e w5 ⟨rfl, hb5⟩
        have hS := st_start (q7.later hb5) (q8.later hb5) (q9.later hb5) (hPn.later hb5) (hb4'.trans (hb5.mono hb4'.size)) (by rw [hb5.tape]; exact hF4)
        clear q7 q8 q9 hPn hb5 hb4' hF4
        go_wp2_with fail
        refine (notice_st hS hS.p11 _ _ _ _ _ _ _ _).mono ?_
        rintro e w6 ⟨z7, z8, z9, z11, rfl, hP6, hS6⟩
        go_wp2_with fail
        refine (check_no_st hS6 hP6 _ _ _ _ _ _ _ _ _ _ _ htop.out).mono ?_
        rintro e w7 ⟨c0, rfl, hS7⟩
        go_wp2_with fail
        refine (notice_st hS7 hS7.pa _ _ _ _ _ _ _ _).mono ?_
        rintro e w8 ⟨z7, z8, z9, z11, rfl, hP8, hS8⟩
        go_wp2_with fail
        refine (check_yes_st hS8 hP8 _ _ _ _ _ _ _ _ _ _ _ rfl).mono ?_
        rintro e w9 ⟨rfl, hS9⟩
        go_wp2_with fail
        refine (notice_st hS9 hS9.pb _ _ _ _ _ _ _ _).mono ?_
        rintro e w10 ⟨z7, z8, z9, z11, rfl, hP10, hS10⟩
        go_wp2_with fail
        refine (check_no_st hS10 hP10 _ _ _ _ _ _ _ _ _ _ _ rfl).mono ?_
        rintro e w11 ⟨c, rfl, hS11⟩
        go_wp2_with fail
        go_ret
        exact ⟨rfl, hS11.below⟩
    · have hu' : (unit == 68) = false := by simpa using hu
      have hS := st_start q7 q8 q9 hPn hb4' hF4
      clear q7 q8 q9 hPn hb4' hF4
      by_cases hle : count ≤ 10
      · have htop : Hid (topB none count unit = true) := by show fitsB count unit = true; unfold fitsB; rw [if_neg hu]; exact decide_eq_true hle
        clear hu
        go_wp2_with fail
        refine (notice_st hS hS.p11 _ _ _ _ _ _ _ _).mono ?_
        rintro e w6 ⟨z7, z8, z9, z11, rfl, hP6, hS6⟩
        go_wp2_with fail
        refine (check_yes_st hS6 hP6 _ _ _ _ _ _ _ _ _ _ _ htop.out).mono ?_
        rintro e w7 ⟨rfl, hS7⟩
        go_wp2_with fail
        refine (notice_st hS7 hS7.pa _ _ _ _ _ _ _ _).mono ?_
        rintro e w8 ⟨z7, z8, z9, z11, rfl, hP8, hS8⟩
        go_wp2_with fail
        refine (check_yes_st hS8 hP8 _ _ _ _ _ _ _ _ _ _ _ rfl).mono ?_
        rintro e w9 ⟨rfl, hS9⟩
        go_wp2_with fail
        refine (notice_st hS9 hS9.pb _ _ _ _ _ _ _ _).mono ?_
        rintro e w10 ⟨z7, z8, z9, z11, rfl, hP10, hS10⟩
        go_wp2_with fail
        refine (check_no_st hS10 hP10 _ _ _ _ _ _ _ _ _ _ _ rfl).mono ?_
        rintro e w11 ⟨c, rfl, hS11⟩
        go_wp2_with fail
        go_ret
        exact ⟨rfl, hS11.below⟩
      · have htop : Hid (topB none count unit = false) := by show fitsB count unit = false; unfold fitsB; rw [if_neg hu]; exact decide_eq_false hle
        have hle' : decide (count ≤ 10) = false := decide_eq_false hle
        clear hu
        go_wp2_with fail
        refine (notice_st hS hS.p11 _ _ _ _ _ _ _ _).mono ?_
        rintro e w6 ⟨z7, z8, z9, z11, rfl, hP6, hS6⟩
        go_wp2_with fail
        refine (check_no_st hS6 hP6 _ _ _ _ _ _ _ _ _ _ _ htop.out).mono ?_
        rintro e w7 ⟨c0, rfl, hS7⟩
        go_wp2_with fail
        refine (notice_st hS7 hS7.pa _ _ _ _ _ _ _ _).mono ?_
        rintro e w8 ⟨z7, z8, z9, z11, rfl, hP8, hS8⟩
        go_wp2_with fail
        refine (check_yes_st hS8 hP8 _ _ _ _ _ _ _ _ _ _ _ rfl).mono ?_
        rintro e w9 ⟨rfl, hS9⟩
        go_wp2_with fail
        refine (notice_st hS9 hS9.pb _ _ _ _ _ _ _ _).mono ?_
        rintro e w10 ⟨z7, z8, z9, z11, rfl, hP10, hS10⟩
        go_wp2_with fail
        refine (check_no_st hS10 hP10 _ _ _ _ _ _ _ _ _ _ _ rfl).mono ?_
        rintro e w11 ⟨c, rfl, hS11⟩
        go_wp2_with fail
        go_ret
        exact ⟨rfl, hS11.below⟩
  · have hbo := block_lt_of_cell hcv
    have hPn : PB w4 (some ⟨b, o, none⟩) (some v) := Or.inr ⟨b, o, v, rfl, rfl, hcv⟩
    have hS := st_start q7 q8 q9 hPn hb4' hF4
    clear q7 q8 q9 hPn hb4' hF4
    cases v
    · have htop : Hid (topB (some false) count unit = false) := rfl
      go_wp2_with fail
      refine (notice_st hS hS.p11 _ _ _ _ _ _ _ _).mono ?_
      rintro e w6 ⟨z7, z8, z9, z11, rfl, hP6, hS6⟩
      go_wp2_with fail
      refine (check_no_st hS6 hP6 _ _ _ _ _ _ _ _ _ _ _ htop.out).mono ?_
      rintro e w7 ⟨c0, rfl, hS7⟩
      go_wp2_with fail
      refine (notice_st hS7 hS7.pa _ _ _ _ _ _ _ _).mono ?_
      rintro e w8 ⟨z7, z8, z9, z11, rfl, hP8, hS8⟩
      go_wp2_with fail
      refine (check_yes_st hS8 hP8 _ _ _ _ _ _ _ _ _ _ _ rfl).mono ?_
      rintro e w9 ⟨rfl, hS9⟩
      go_wp2_with fail
      refine (notice_st hS9 hS9.pb _ _ _ _ _ _ _ _).mono ?_
      rintro e w10 ⟨z7, z8, z9, z11, rfl, hP10, hS10⟩
      go_wp2_with fail
      refine (check_no_st hS10 hP10 _ _ _ _ _ _ _ _ _ _ _ rfl).mono ?_
      rintro e w11 ⟨c, rfl, hS11⟩
      go_wp2_with fail
      go_ret
      exact ⟨rfl, hS11.below⟩
    · have htop : Hid (topB (some true) count unit = true) := rfl
      go_wp2_with fail
      refine (notice_st hS hS.p11 _ _ _ _ _ _ _ _).mono ?_
      rintro e w6 ⟨z7, z8, z9, z11, rfl, hP6, hS6⟩
      go_wp2_with fail
      refine (check_yes_st hS6 hP6 _ _ _ _ _ _ _ _ _ _ _ htop.out).mono ?_
      rintro e w7 ⟨rfl, hS7⟩
      go_wp2_with fail
      refine (notice_st hS7 hS7.pa _ _ _ _ _ _ _ _).mono ?_
      rintro e w8 ⟨z7, z8, z9, z11, rfl, hP8, hS8⟩
      go_wp2_with fail
      refine (check_yes_st hS8 hP8 _ _ _ _ _ _ _ _ _ _ _ rfl).mono ?_
      rintro e w9 ⟨rfl, hS9⟩
      go_wp2_with fail
      refine (notice_st hS9 hS9.pb _ _ _ _ _ _ _ _).mono ?_
      rintro e w10 ⟨z7, z8, z9, z11, rfl, hP10, hS10⟩
      go_wp2_with fail
      refine (check_no_st hS10 hP10 _ _ _ _ _ _ _ _ _ _ _ rfl).mono ?_
      rintro e w11 ⟨c, rfl, hS11⟩
      go_wp2_with fail
      go_ret
      exact ⟨rfl, hS11.below⟩

end Go.Proofs.Qxb6630774aFmt
