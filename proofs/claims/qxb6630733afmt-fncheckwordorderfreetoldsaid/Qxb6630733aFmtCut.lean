/-
  DERIVED. THE WALK OF zzlaws_input_b1.FnCheckWordCut.
-/
import Derived.Test.Qxb6630733aFmtWord
namespace Go.Proofs.Qxb6630733aFmt
open Go.RowKit Go.Extern.Stop Go.Stop Go.Extern

/-- CheckWord over a word, inside a longer call. -/
theorem word_yes (s : ByteArray) (w : World) (hs : s.size ≤ 1000000) (h : wordB s.data.toList = true) :
    Calls Tryf.prog 6 #[.string s] w fun e w' => e = .returned .nilIface ∧ w' = w :=
  check_yes s w (by unfold maxLen; omega) h

/-- CheckWord over what is no word, inside a longer call that began in w0. -/
theorem word_no (F : Interp) (w0 : World) (s : ByteArray) (w : World) (hs : s.size ≤ 1000000) (hF : F.answers w0.tape) (h0 : Below w0.heap.size w0 w) (h : wordB s.data.toList = false) :
    Calls Tryf.prog 6 #[.string s] w fun e w' => ∃ a, e = .returned (.iface 32 (.pointer (some a))) ∧ Below w0.heap.size w0 w' :=
  (check_no F s w (by unfold maxLen; omega) (by rw [h0.tape]; exact hF) h).mono fun _ _ ⟨⟨a, ha⟩, hb⟩ => ⟨a, ha, h0.trans (hb.mono h0.size)⟩

theorem bytes_ok (s : ByteArray) (k : Int) (w : World) (hs : s.size ≤ 1048576) :
    Calls Tryf.prog 5 #[.string s, .int .i64 k] w fun e w' => e = .returned (.bool true) ∧ w' = w := by
  go_enter Tryf.func5, Tryf.ntmps5
  go_wp2
  go_ret
  exact ⟨rfl, rfl⟩

theorem cut_long (s : ByteArray) (k : Int) (w : World) (hm : s.size ≤ maxLen) (hs : 65536 < s.size) :
    Calls Tryf.prog 3 #[.string s, .int .i64 k] w fun e w' => e = .returned (.bool true) ∧ Below w.heap.size w w' := by
  unfold maxLen at hm
  by_cases h : s.size ≤ 1048576
  · go_enter Tryf.func3, Tryf.ntmps3
    go_wp2
    go_ret
    exact ⟨rfl, Below.refl _ _⟩
  · go_enter Tryf.func3, Tryf.ntmps3
    go_wp2
    go_ret
    exact ⟨rfl, Below.refl _ _⟩

theorem cut_out (s : ByteArray) (k : Int) (w : World) (hs : s.size ≤ 65536) (hk : k < 0 ∨ (s.size : Int) < k) :
    Calls Tryf.prog 3 #[.string s, .int .i64 k] w fun e w' => e = .returned (.bool true) ∧ Below w.heap.size w w' := by
  rcases hk with hk | hk
  · go_enter Tryf.func3, Tryf.ntmps3
    go_wp2
    go_ret
    exact ⟨rfl, Below.refl _ _⟩
  · have hk0 : ¬ k < 0 := by omega
    go_enter Tryf.func3, Tryf.ntmps3
    go_wp2
    go_ret
    exact ⟨rfl, Below.refl _ _⟩

theorem cut_parts (s : ByteArray) (n : Nat) : s.data.toList = (s.extract 0 n).data.toList ++ (s.extract n s.size).data.toList := by
  have h1 : (s.extract 0 n).data.toList = s.data.toList.take n := by simp [ByteArray.data_extract]
  have h2 : (s.extract n s.size).data.toList = s.data.toList.drop n := by
    simp only [ByteArray.data_extract, Array.toList_extract, List.extract_eq_take_drop]
    rw [List.take_of_length_le (by simp)]
  rw [h1, h2, List.take_append_drop]

/-- Each part is empty, or a word, or neither; the whole follows. -/
theorem cut_cases (s : ByteArray) (n : Nat) :
    (((s.extract 0 n).toList.isEmpty = true) ∨ ((s.extract 0 n).toList.isEmpty = false ∧ wordB (s.extract 0 n).data.toList = true) ∨ ((s.extract 0 n).toList.isEmpty = false ∧ wordB (s.extract 0 n).data.toList = false)) ∧
    (((s.extract n s.size).toList.isEmpty = true) ∨ ((s.extract n s.size).toList.isEmpty = false ∧ wordB (s.extract n s.size).data.toList = true) ∨ ((s.extract n s.size).toList.isEmpty = false ∧ wordB (s.extract n s.size).data.toList = false)) ∧
    s.toList.isEmpty = ((s.extract 0 n).toList.isEmpty && (s.extract n s.size).toList.isEmpty) ∧
    wordB s.data.toList = (!s.toList.isEmpty && ((s.extract 0 n).toList.isEmpty || wordB (s.extract 0 n).data.toList) && ((s.extract n s.size).toList.isEmpty || wordB (s.extract n s.size).data.toList)) := by
  have hp := cut_parts s n
  refine ⟨?_, ?_, ?_, ?_⟩
  · cases (s.extract 0 n).toList.isEmpty <;> cases wordB (s.extract 0 n).data.toList <;> simp
  · cases (s.extract n s.size).toList.isEmpty <;> cases wordB (s.extract n s.size).data.toList <;> simp
  · rw [ByteArray.toList_eq, ByteArray.toList_eq, ByteArray.toList_eq, hp]
    cases (s.extract 0 n).data.toList <;> rfl
  · rw [ByteArray.toList_eq, ByteArray.toList_eq, ByteArray.toList_eq, hp, word_append]

theorem dot_no (a b : ByteArray) : wordB (a ++ { data := #[46] } ++ b).data.toList = false := by
  have e : (a ++ { data := #[46] } ++ b).data.toList = a.data.toList ++ [46] ++ b.data.toList := by simp [ByteArray.data_append]
  rw [e]
  exact word_dot _ _ 46 (by decide)

theorem dot_size (s : ByteArray) (n : Nat) (hs : s.size ≤ 65536) (hn : n ≤ s.size) : (s.extract 0 n).size ≤ 1000000 ∧ (s.extract n s.size).size ≤ 1000000 ∧ s.size ≤ 1000000 ∧ (s.extract 0 n ++ { data := #[46] } ++ s.extract n s.size).size ≤ 1000000 := by
  have h3 : (ByteArray.mk #[46]).size = 1 := rfl
  rw [ByteArray.size_append, ByteArray.size_append, ByteArray.size_extract, ByteArray.size_extract, h3]
  omega

set_option maxHeartbeats 1000000 in
theorem cut_in (F : Interp) (s : ByteArray) (n : Nat) (w : World) (hF : F.answers w.tape) (hs : s.size ≤ 65536) (hn : n ≤ s.size) :
    Calls Tryf.prog 3 #[.string s, .int .i64 n] w fun e w' => e = .returned (.bool true) ∧ Below w.heap.size w w' := by
  have hb0 := Below.refl w.heap.size w
  obtain ⟨hA, hB, hE, hW⟩ := cut_cases s n
  have hD := dot_no (s.extract 0 n) (s.extract n s.size)
  obtain ⟨z1, z2, z3, z4⟩ := dot_size s n hs hn
  rcases hA with ea | ⟨ea, wa⟩ | ⟨ea, wa⟩ <;> rcases hB with eb | ⟨eb, wb⟩ | ⟨eb, wb⟩
  all_goals
    rw [ea, eb] at hE
    rw [hE, ea, eb] at hW
    try rw [wa] at hW
    try rw [wb] at hW
    first | replace hE : s.toList.isEmpty = true := hE | replace hE : s.toList.isEmpty = false := hE
    first | replace hW : wordB s.data.toList = true := hW | replace hW : wordB s.data.toList = false := hW
    go_enter Tryf.func3, Tryf.ntmps3
    go_wp2_with (first | (go_at_call 5; refine (bytes_ok _ _ _ (by omega)).mono ?_; rintro e w' ⟨rfl, rfl⟩) | (go_at_call 6; refine (word_yes _ _ ?_ ?_).mono ?_; rotate_left; with_reducible assumption; rotate_left; with_reducible assumption; rintro e w' ⟨rfl, rfl⟩) | (go_at_call 6; refine (word_no F _ _ _ ?_ hF ?_ ?_).mono ?_; rotate_left 2; with_reducible assumption; rotate_left; with_reducible assumption; with_reducible assumption; rintro e w' ⟨a, rfl, hb⟩))
    go_ret
    exact ⟨rfl, by with_reducible assumption⟩

theorem cut_any (F : Interp) (s : ByteArray) (k : Int) (w : World) (hF : F.answers w.tape) (hm : s.size ≤ maxLen) :
    Calls Tryf.prog 3 #[.string s, .int .i64 k] w fun e w' => e = .returned (.bool true) ∧ Below w.heap.size w w' := by
  by_cases hs : s.size ≤ 65536
  · by_cases hk : k < 0 ∨ (s.size : Int) < k
    · exact cut_out s k w hs hk
    · obtain ⟨n, rfl⟩ : ∃ n : Nat, k = n := ⟨k.toNat, by omega⟩
      exact cut_in F s n w hF hs (by omega)
  · exact cut_long s k w hm (by omega)

end Go.Proofs.Qxb6630733aFmt
