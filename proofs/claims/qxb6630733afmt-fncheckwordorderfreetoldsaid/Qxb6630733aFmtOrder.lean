/-
  DERIVED. THE WALK OF zzlaws_input_b1.FnCheckWordOrderFree.
-/
import Derived.Test.Qxb6630733aFmtRev
namespace Go.Proofs.Qxb6630733aFmt
open Go.RowKit Go.Extern.Stop Go.Stop Go.Extern

theorem bytes7_ok (s : ByteArray) (w : World) (hs : s.size ≤ 1048576) :
    Calls Tryf.prog 7 #[.string s] w fun e w' => e = .returned (.bool true) ∧ w' = w := by
  go_enter Tryf.func7, Tryf.ntmps7
  go_wp2
  go_ret
  exact ⟨rfl, rfl⟩

theorem order_long (s : ByteArray) (w : World) (hm : s.size ≤ maxLen) (hs : 65536 < s.size) :
    Calls Tryf.prog 4 #[.string s] w fun e w' => e = .returned (.bool true) ∧ Below w.heap.size w w' := by
  unfold maxLen at hm
  by_cases h : s.size ≤ 1048576
  · go_enter Tryf.func4, Tryf.ntmps4
    go_wp2
    go_ret
    exact ⟨rfl, Below.refl _ _⟩
  · go_enter Tryf.func4, Tryf.ntmps4
    go_wp2
    go_ret
    exact ⟨rfl, Below.refl _ _⟩

/-- The bytes of s, the last first. -/
def revB (s : ByteArray) : ByteArray := ⟨s.data.toList.reverse.toArray⟩

theorem rev_in (F : Interp) (w0 : World) (s : ByteArray) (w : World) (hs : s.size ≤ 1000000) (_hF : F.answers w0.tape) (h0 : Below w0.heap.size w0 w) :
    Calls Tryf.prog 8 #[.string s] w fun e w' => e = .returned (.string (revB s)) ∧ Below w0.heap.size w0 w' :=
  (rev_any s w hs).mono fun _ _ ⟨he, hb⟩ => ⟨he, h0.trans (hb.mono h0.size)⟩

theorem order_words (s : ByteArray) : wordB (revB s).data.toList = wordB s.data.toList ∧ wordB (s ++ s).data.toList = wordB s.data.toList ∧
    wordB (s ++ { data := #[32] }).data.toList = false ∧ wordB ({ data := #[61] } ++ s).data.toList = false := by
  have e1 : (s ++ s).data.toList = s.data.toList ++ s.data.toList := by simp [ByteArray.data_append]
  have e2 : (s ++ { data := #[32] }).data.toList = s.data.toList ++ [32] ++ [] := by simp [ByteArray.data_append]
  have e3 : ({ data := #[61] } ++ s).data.toList = [] ++ [61] ++ s.data.toList := by simp [ByteArray.data_append]
  refine ⟨?_, ?_, ?_, ?_⟩
  · show wordB s.data.toList.reverse.toArray.toList = _
    rw [List.toList_toArray, word_reverse]
  · rw [e1, word_twice]
  · rw [e2]; exact word_dot _ _ _ (by decide)
  · rw [e3]; exact word_dot _ _ _ (by decide)

theorem order_sizes (s : ByteArray) (hs : s.size ≤ 65536) : s.size ≤ 1000000 ∧ (revB s).size ≤ 1000000 ∧ (s ++ s).size ≤ 1000000 ∧ (s ++ { data := #[32] }).size ≤ 1000000 ∧ ({ data := #[61] } ++ s).size ≤ 1000000 := by
  have h1 : (ByteArray.mk #[32]).size = 1 := rfl
  have h2 : (ByteArray.mk #[61]).size = 1 := rfl
  have h3 : (revB s).size = s.size := by
    show s.data.toList.reverse.toArray.size = s.data.size
    simp
  rw [ByteArray.size_append, ByteArray.size_append, ByteArray.size_append, h1, h2, h3]
  omega

set_option maxHeartbeats 1000000 in
theorem order_in (F : Interp) (s : ByteArray) (w : World) (hF : F.answers w.tape) (hs : s.size ≤ 65536) :
    Calls Tryf.prog 4 #[.string s] w fun e w' => e = .returned (.bool true) ∧ Below w.heap.size w w' := by
  have hb0 := Below.refl w.heap.size w
  obtain ⟨x1, x2, x3, x4⟩ := order_words s
  obtain ⟨z1, z2, z3, z4, z5⟩ := order_sizes s hs
  cases hw : wordB s.data.toList
  all_goals
    rw [hw] at x1 x2
    go_enter Tryf.func4, Tryf.ntmps4
    go_wp2_with (first | (go_at_call 7; refine (bytes7_ok _ _ (by omega)).mono ?_; rintro e w' ⟨rfl, rfl⟩) | (go_at_call 8; refine (rev_in F _ _ _ ?_ hF ?_).mono ?_; with_reducible assumption; with_reducible assumption; rintro e w' ⟨rfl, hb⟩) | (go_at_call 6; refine (word_yes _ _ ?_ ?_).mono ?_; rotate_left; with_reducible assumption; rotate_left; with_reducible assumption; rintro e w' ⟨rfl, rfl⟩) | (go_at_call 6; refine (word_no F _ _ _ ?_ hF ?_ ?_).mono ?_; rotate_left 2; with_reducible assumption; rotate_left; with_reducible assumption; with_reducible assumption; rintro e w' ⟨a, rfl, hb⟩))
    go_ret
    exact ⟨rfl, by with_reducible assumption⟩

theorem order_any (F : Interp) (s : ByteArray) (w : World) (hF : F.answers w.tape) (hm : s.size ≤ maxLen) :
    Calls Tryf.prog 4 #[.string s] w fun e w' => e = .returned (.bool true) ∧ Below w.heap.size w w' := by
  by_cases hs : s.size ≤ 65536
  · exact order_in F s w hF hs
  · exact order_long s w hm (by omega)

end Go.Proofs.Qxb6630733aFmt
