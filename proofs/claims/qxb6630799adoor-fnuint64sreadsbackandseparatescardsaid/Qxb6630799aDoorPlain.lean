/-
  DERIVED. THE PLAIN FUNCTION BEHIND jsonenc.Uint64s, AND ITS LAWS: no Go in sight.
-/
import Derived.Lib.ItoaNum
namespace Go.Proofs.Qxb6630799aDoor
open Go.Lib

/-- The numbers, a comma between. -/
def jbody : List Nat → List UInt8
  | [] => []
  | [a] => decDigits a
  | a :: b :: r => decDigits a ++ 44 :: jbody (b :: r)
/-- The JSON array. -/
def jenc (l : List Nat) : List UInt8 := 91 :: (jbody l ++ [93])
/-- The comma between two parts. -/
def jsep (l m : List Nat) : List UInt8 := if l.isEmpty || m.isEmpty then [] else [44]

theorem jbody_append (l m : List Nat) : jbody (l ++ m) = jbody l ++ jsep l m ++ jbody m := by
  induction l with
  | nil => simp [jbody, jsep]
  | cons a l ih =>
    cases l with
    | nil =>
      cases m with
      | nil => simp [jbody, jsep]
      | cons b m => simp [jbody, jsep]
    | cons b l =>
      have e : a :: b :: l ++ m = a :: b :: (l ++ m) := rfl
      have e2 : jsep (a :: b :: l) m = jsep (b :: l) m := by simp [jsep]
      rw [e, jbody, jbody, show b :: (l ++ m) = b :: l ++ m from rfl, ih, e2]
      simp

theorem jbody_snoc (l : List Nat) (x : Nat) : jbody (l ++ [x]) = jbody l ++ ((if l.isEmpty then [] else [44]) ++ decDigits x) := by
  rw [jbody_append]
  cases l <;> simp [jsep, jbody]

theorem jenc_append (l m : List Nat) : jenc (l ++ m) = (91 :: jbody l) ++ jsep l m ++ (jbody m ++ [93]) := by
  unfold jenc
  rw [jbody_append]
  simp

theorem jenc_length (l : List Nat) : (jenc l).length = (jbody l).length + 2 := by simp [jenc]

theorem nDigits_le (k : Nat) : ∀ (u : Nat), u < 10 ^ (k + 1) → nDigits u ≤ k + 1 := by
  induction k with
  | zero => intro u h; rw [nDigits_small (by simpa using h)]; exact Nat.le_refl _
  | succ k ih =>
    intro u h
    by_cases hu : u < 10
    · rw [nDigits_small hu]; omega
    · rw [nDigits_big hu]
      have := ih (u / 10) (by rw [Nat.pow_succ] at h; omega)
      omega

theorem dec_length (u : Nat) (h : u < 18446744073709551616) : 1 ≤ (decDigits u).length ∧ (decDigits u).length ≤ 20 := by
  rw [decDigits_length]
  exact ⟨nDigits_pos u, nDigits_le 19 u (by omega)⟩

theorem jbody_length (l : List Nat) (h : ∀ x ∈ l, x < 18446744073709551616) : (jbody l).length ≤ 21 * l.length := by
  induction l with
  | nil => simp [jbody]
  | cons a l ih =>
    have ha := dec_length a (h a (by simp))
    cases l with
    | nil => simp [jbody]; omega
    | cons b l =>
      have := ih (fun x hx => h x (by simp [hx]))
      simp only [jbody, List.length_append, List.length_cons] at this ⊢
      omega

theorem jbody_nil (l : List Nat) (h : jbody l = []) (hl : ∀ x ∈ l, x < 18446744073709551616) : l = [] := by
  cases l with
  | nil => rfl
  | cons a l =>
    have ha := dec_length a (hl a (by simp))
    cases l with
    | nil => simp only [jbody] at h; rw [h] at ha; simp at ha
    | cons b l => simp [jbody] at h

end Go.Proofs.Qxb6630799aDoor
