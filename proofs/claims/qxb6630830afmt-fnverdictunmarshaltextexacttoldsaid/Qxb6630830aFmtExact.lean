/-
  DERIVED. THE WALK OF FnVerdictUnmarshalTextExact.
-/
import Derived.Test.Qxb6630830aFmtText
namespace Go.Proofs.Qxb6630830aFmt
open Go.RowKit Go.Extern.Stop Go.Stop Go.Extern
open Go.Lib (byteCells byteCells_length)

set_option maxRecDepth 20000 in
set_option maxHeartbeats 400000 in
theorem zz (k : Int) (a : Option Addr) (n cap : Nat) (w : World) :
    Calls Tryf.prog 5 #[.int .i64 k, .slice a n cap] w fun e w' => ∃ b, e = .returned (.bool b) ∧ w' = w := by
  by_cases hle : (n : Int) ≤ 1048576
  · go_enter Tryf.func5, Tryf.ntmps5
    go_wp2
    go_ret
    exact ⟨_, rfl, rfl⟩
  · have hgt : (1048576 : Int) < (n : Int) := by omega
    clear hle
    go_enter Tryf.func5, Tryf.ntmps5
    go_wp2
    go_ret
    exact ⟨_, rfl, rfl⟩

/-- The text is too long: nothing is asked. -/
theorem exact_long (k : Int) (a : Option Addr) (n cap : Nat) (w : World) (hle : (1048576 : Int) < (n : Int)) :
    Calls Tryf.prog 3 #[.int .i64 k, .slice a n cap] w fun e w' => e = .returned (.bool true) ∧ Below w.heap.size w w' := by
  go_enter Tryf.func3, Tryf.ntmps3
  go_wp2_with fail
  refine (zz _ _ _ _ _).mono ?_
  rintro e w' ⟨b, rfl, rfl⟩
  cases b
  · go_wp2
    go_ret
    exact ⟨rfl, Below.refl _ _⟩
  · go_wp2
    go_ret
    exact ⟨rfl, Below.refl _ _⟩

set_option maxRecDepth 20000 in
set_option maxHeartbeats 400000 in
/-- The text is "no match". -/
theorem exact_no (k : Int) (a : Option Addr) (n cap : Nat) (w : World) (hle : (n : Int) ≤ 1048576) (hR : Rv w (.slice a n cap) (byteCells noS.data.toList)) :
    Calls Tryf.prog 3 #[.int .i64 k, .slice a n cap] w fun e w' => e = .returned (.bool true) ∧ Below w.heap.size w w' := by
  have hcv : (convert 22 9 (.slice a n cap)).run Tryf.prog w = .ok (.string noS) w := conv_of _ _ _ hR
  have HR : Hid (Rv w (.slice a n cap) (byteCells noS.data.toList)) := hR
  clear hR
  go_enter Tryf.func3, Tryf.ntmps3
  go_wp2_with fail
  refine (zz _ _ _ _ _).mono ?_
  rintro e w' ⟨b, rfl, rfl⟩
  cases b
  · go_wp2
    go_ret
    exact ⟨rfl, Below.refl _ _⟩
  · go_wp2_with fail
    refine (string0 _).mono ?_
    rintro e w1 ⟨rfl, rfl⟩
    go_wp2_with fail
    refine (um_known _ w1.heap.size (.int .i64 k) _ (by simp) (by simp) _ (HR.out.later ((Below.refl _ _).alloc (Nat.le_refl _) _)) 0 (Or.inl ⟨rfl, rfl⟩)).mono ?_
    rintro e w3 ⟨rfl, hc3, hb3⟩
    have HB3 : Hid (Below w1.heap.size w1 w3) := ((Below.refl _ _).alloc (Nat.le_refl _) _).trans hb3
    clear hb3
    go_wp2_with fail
    refine (string0 _).mono ?_
    rintro e w4 ⟨rfl, rfl⟩
    go_wp2
    go_ret
    exact ⟨rfl, HB3.out⟩

set_option maxRecDepth 20000 in
set_option maxHeartbeats 400000 in
/-- The text is "match". -/
theorem exact_yes (k : Int) (a : Option Addr) (n cap : Nat) (w : World) (hle : (n : Int) ≤ 1048576) (hR : Rv w (.slice a n cap) (byteCells yesS.data.toList)) :
    Calls Tryf.prog 3 #[.int .i64 k, .slice a n cap] w fun e w' => e = .returned (.bool true) ∧ Below w.heap.size w w' := by
  have hcv : (convert 22 9 (.slice a n cap)).run Tryf.prog w = .ok (.string yesS) w := conv_of _ _ _ hR
  have HR : Hid (Rv w (.slice a n cap) (byteCells yesS.data.toList)) := hR
  have hne : (yesS.toList == noS.toList) = false := by kernel_rfl
  clear hR
  go_enter Tryf.func3, Tryf.ntmps3
  go_wp2_with fail
  refine (zz _ _ _ _ _).mono ?_
  rintro e w' ⟨b, rfl, rfl⟩
  cases b
  · go_wp2
    go_ret
    exact ⟨rfl, Below.refl _ _⟩
  · go_wp2_with fail
    refine (string0 _).mono ?_
    rintro e w1 ⟨rfl, rfl⟩
    go_wp2_with fail
    refine (string1 _).mono ?_
    rintro e w2 ⟨rfl, rfl⟩
    go_wp2_with fail
    refine (um_known _ w2.heap.size (.int .i64 k) _ (by simp) (by simp) _ (HR.out.later ((Below.refl _ _).alloc (Nat.le_refl _) _)) 1 (Or.inr ⟨rfl, rfl⟩)).mono ?_
    rintro e w3 ⟨rfl, hc3, hb3⟩
    have HB3 : Hid (Below w2.heap.size w2 w3) := ((Below.refl _ _).alloc (Nat.le_refl _) _).trans hb3
    clear hb3
    go_wp2_with fail
    refine (string1 _).mono ?_
    rintro e w4 ⟨rfl, rfl⟩
    go_wp2
    go_ret
    exact ⟨rfl, HB3.out⟩

set_option maxRecDepth 20000 in
set_option maxHeartbeats 400000 in
/-- The text is another. -/
theorem exact_other (F : Interp) (k : Int) (a : Option Addr) (n cap : Nat) (w : World) (hF : F.answers w.tape) (hle : (n : Int) ≤ 1048576) (l : List UInt8) (hR : Rv w (.slice a n cap) (byteCells l)) (s : ByteArray) (hs : s = ⟨l.toArray⟩)
    (h0 : (s.toList == noS.toList) = false) (h1 : (s.toList == yesS.toList) = false) :
    Calls Tryf.prog 3 #[.int .i64 k, .slice a n cap] w fun e w' => e = .returned (.bool true) ∧ Below w.heap.size w w' := by
  have hcv : (convert 22 9 (.slice a n cap)).run Tryf.prog w = .ok (.string s) w := by rw [hs]; exact conv_of _ _ _ hR
  have HR : Hid (Rv w (.slice a n cap) (byteCells l)) := hR
  have HF : Hid (F.answers w.tape) := hF
  have HS : Hid (s = ⟨l.toArray⟩) := hs
  clear hR hF hs
  go_enter Tryf.func3, Tryf.ntmps3
  go_wp2_with fail
  refine (zz _ _ _ _ _).mono ?_
  rintro e w' ⟨b, rfl, rfl⟩
  cases b
  · go_wp2
    go_ret
    exact ⟨rfl, Below.refl _ _⟩
  · go_wp2_with fail
    refine (string0 _).mono ?_
    rintro e w1 ⟨rfl, rfl⟩
    go_wp2_with fail
    refine (string1 _).mono ?_
    rintro e w2 ⟨rfl, rfl⟩
    go_wp2_with fail
    refine (um_other F _ w2.heap.size _ (by exact HF.out) l (HR.out.later ((Below.refl _ _).alloc (Nat.le_refl _) _)) s HS.out h0 h1).mono ?_
    rintro e w3 ⟨⟨x, rfl⟩, hb3⟩
    have hc3 : w3.cell? ⟨w2.heap.size, 0, none⟩ = some (.int .i64 k) := by rw [hb3.cell (by simp)]; simp
    have HB3 : Hid (Below w2.heap.size w2 w3) := ((Below.refl _ _).alloc (Nat.le_refl _) _).trans (hb3.mono (by simp))
    clear hb3
    go_wp2
    go_ret
    exact ⟨rfl, HB3.out⟩

theorem toList_ne {s t : ByteArray} (h : s ≠ t) : (s.toList == t.toList) = false := by
  rw [ByteArray.toList_eq, ByteArray.toList_eq]
  simp only [beq_eq_false_iff_ne, ne_eq]
  intro e
  apply h
  cases s
  cases t
  simp only [Array.toList_inj] at e
  rw [e]

theorem exact_any (F : Interp) (k : Int) (tv : Value) (l : List UInt8) (w : World) (hF : F.answers w.tape) (hR : Rv w tv (byteCells l)) :
    Calls Tryf.prog 3 #[.int .i64 k, tv] w fun e w' => e = .returned (.bool true) ∧ Below w.heap.size w w' := by
  obtain ⟨a, cap, rfl, -⟩ := id hR
  by_cases hle : (((byteCells l).length : Nat) : Int) ≤ 1048576
  · by_cases e0 : (⟨l.toArray⟩ : ByteArray) = noS
    · obtain rfl : l = noS.data.toList := by rw [← e0]
      exact exact_no k a _ cap w hle hR
    · by_cases e1 : (⟨l.toArray⟩ : ByteArray) = yesS
      · obtain rfl : l = yesS.data.toList := by rw [← e1]
        exact exact_yes k a _ cap w hle hR
      · exact exact_other F k a _ cap w hF hle l hR _ rfl (toList_ne e0) (toList_ne e1)
  · exact exact_long k a _ cap w (by omega)

end Go.Proofs.Qxb6630830aFmt
