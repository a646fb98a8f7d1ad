/-
  DERIVED. THE PLAIN FUNCTION BEHIND input.CheckWord, AND ITS LAWS: no Go in sight.
-/
namespace Go.Proofs.Qxb6630733aFmt

/-- A byte that a word may hold: an ASCII letter, a digit, '_' or '-'. -/
def okc (c : UInt8) : Bool := (97 ≤ c && c ≤ 122) || (65 ≤ c && c ≤ 90) || (48 ≤ c && c ≤ 57) || c == 95 || c == 45
/-- A word: not empty, each byte fit. -/
def wordB (l : List UInt8) : Bool := !l.isEmpty && l.all okc

theorem okc_iff (c : UInt8) : okc c = true ↔ (97 ≤ c.toNat ∧ c.toNat ≤ 122) ∨ (65 ≤ c.toNat ∧ c.toNat ≤ 90) ∨ (48 ≤ c.toNat ∧ c.toNat ≤ 57) ∨ c.toNat = 95 ∨ c.toNat = 45 := by
  unfold okc
  simp only [Bool.or_eq_true, Bool.and_eq_true, decide_eq_true_eq, UInt8.le_iff_toNat_le, beq_iff_eq, ← UInt8.toNat_inj]
  simp only [UInt8.reduceToNat, or_assoc]

theorem okc_not (c : UInt8) (h : ¬ okc c = true) : ((c.toNat : Int) == 95) = false ∧ ((c.toNat : Int) == 45) = false ∧ (c.toNat < 48 ∨ (57 < c.toNat ∧ c.toNat < 65) ∨ (90 < c.toNat ∧ c.toNat < 97) ∨ 122 < c.toNat) := by
  rw [okc_iff] at h
  refine ⟨?_, ?_, by omega⟩
  · rw [beq_eq_false_iff_ne]; omega
  · rw [beq_eq_false_iff_ne]; omega

theorem take_snoc (s : ByteArray) (k : Nat) (h : k < s.size) : s.data.toList.take (k + 1) = s.data.toList.take k ++ [s[k]] := by
  rw [List.take_succ_eq_append_getElem (by simpa using h)]; rfl

theorem word_append (a b : List UInt8) : wordB (a ++ b) = (!(a ++ b).isEmpty && (a.isEmpty || wordB a) && (b.isEmpty || wordB b)) := by
  unfold wordB
  cases a <;> cases b <;> simp [Bool.and_assoc]

theorem word_dot (a b : List UInt8) (c : UInt8) (h : okc c = false) : wordB (a ++ [c] ++ b) = false := by
  unfold wordB
  simp [h]

theorem word_reverse (a : List UInt8) : wordB a.reverse = wordB a := by
  unfold wordB
  simp

theorem word_twice (a : List UInt8) : wordB (a ++ a) = wordB a := by
  unfold wordB
  cases a with
  | nil => rfl
  | cons x t => cases h1 : okc x <;> cases h2 : t.all okc <;> simp [h1, h2]

end Go.Proofs.Qxb6630733aFmt
