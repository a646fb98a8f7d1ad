/-
  DERIVED. THE PLAIN LAWS BEHIND zzReadsBackAs: the digits of a number, one by one; the array's text tells its list.
-/
import Derived.Test.Qxb6630799aDoorPlain
namespace Go.Proofs.Qxb6630799aDoor
open Go.Lib

theorem dec_sm (x : Nat) (h : x < 10) : decDigits x = [UInt8.ofNat (48 + x)] := by rw [decDigits, dif_pos h]
theorem dec_bg (x : Nat) (h : ¬ x < 10) : decDigits x = decDigits (x / 10) ++ [UInt8.ofNat (48 + x % 10)] := by rw [decDigits, dif_neg h]
theorem ofNat_dig (d : Nat) (h : d < 10) : (UInt8.ofNat (48 + d)).toNat = 48 + d := UInt8.toNat_ofNat_of_lt' (by simp [UInt8.size]; omega)

/-- The digit at place m. -/
theorem dec_at (x m : Nat) (hm : m < (decDigits x).length) : ((decDigits x)[m]).toNat = 48 + x / 10 ^ ((decDigits x).length - 1 - m) % 10 := by
  simp only [decDigits_length] at hm ⊢
  simp only [decDigits_eq, List.getElem_map, List.getElem_range]
  unfold dg
  exact ofNat_dig _ (Nat.mod_lt _ (by omega))

/-- A leading nought stands alone. -/
theorem dec_lead (x : Nat) (h : x / 10 ^ ((decDigits x).length - 1) % 10 = 0) : (decDigits x).length = 1 := by
  rw [decDigits_length] at h ⊢
  have h1 := lt_pow_nDigits x
  have hp := nDigits_pos x
  by_cases hs : x < 10
  · exact nDigits_small hs
  · exfalso
    have hlow : ∀ (k y : Nat), ¬ y < 10 → nDigits y = k + 1 → 10 ^ k ≤ y := by
      intro k
      induction k with
      | zero => intro y hy hn; omega
      | succ k ih =>
        intro y hy hn
        rw [nDigits_big hy] at hn
        by_cases h2 : y / 10 < 10
        · rw [nDigits_small h2] at hn
          have : k = 0 := by omega
          subst this
          omega
        · have := ih (y / 10) h2 (by omega)
          rw [Nat.pow_succ]
          omega
    have hl := hlow (nDigits x - 1) x hs (by omega)
    have hq : x / 10 ^ (nDigits x - 1) < 10 := by
      rw [Nat.div_lt_iff_lt_mul (Nat.pow_pos (by omega)), Nat.mul_comm, ← Nat.pow_succ, Nat.succ_eq_add_one, Nat.sub_add_cancel hp]
      exact h1
    have hq1 : 1 ≤ x / 10 ^ (nDigits x - 1) := (Nat.one_le_div_iff (Nat.pow_pos (by omega))).2 hl
    omega

/-- The number that has been read behind m digits. -/
def vAt (x m : Nat) : Nat := x / 10 ^ ((decDigits x).length - m)
theorem vAt_zero (x : Nat) : vAt x 0 = 0 := by
  unfold vAt
  rw [Nat.sub_zero, decDigits_length]
  exact Nat.div_eq_of_lt (lt_pow_nDigits x)
theorem vAt_end (x : Nat) : vAt x (decDigits x).length = x := by
  unfold vAt
  rw [Nat.sub_self, Nat.pow_zero, Nat.div_one]
theorem vAt_succ (x m : Nat) (hm : m < (decDigits x).length) : vAt x (m + 1) = vAt x m * 10 + x / 10 ^ ((decDigits x).length - 1 - m) % 10 := by
  unfold vAt
  rw [show (decDigits x).length - (m + 1) = (decDigits x).length - 1 - m by omega, show (decDigits x).length - m = ((decDigits x).length - 1 - m) + 1 by omega, Nat.pow_succ, ← Nat.div_div_eq_div_mul]
  omega
theorem vAt_le (x m : Nat) : vAt x m ≤ x := Nat.div_le_self _ _

/-- The text from one number on. -/
theorem jbody_cons (x : Nat) (r : List Nat) : jbody (x :: r) = decDigits x ++ (if r.isEmpty then [] else 44 :: jbody r) := by
  cases r <;> simp [jbody]

/-- The value of a numeral. -/
def valOf (l : List UInt8) : Nat := l.foldl (fun a b => a * 10 + (b.toNat - 48)) 0
theorem valOf_snoc (l : List UInt8) (b : UInt8) : valOf (l ++ [b]) = valOf l * 10 + (b.toNat - 48) := by simp [valOf]
theorem valOf_dec (k : Nat) : ∀ x, x ≤ k → valOf (decDigits x) = x := by
  induction k with
  | zero => intro x hx; obtain rfl : x = 0 := by omega
            rw [dec_sm 0 (by omega)]; rfl
  | succ k ih =>
    intro x hx
    by_cases h : x < 10
    · rw [dec_sm x h]
      have := ofNat_dig x h
      simp only [valOf, List.foldl_cons, List.foldl_nil]
      omega
    · rw [dec_bg x h, valOf_snoc, ih (x / 10) (by omega), ofNat_dig _ (Nat.mod_lt _ (by omega))]
      omega
theorem dec_inj {x y : Nat} (h : decDigits x = decDigits y) : x = y := by
  rw [← valOf_dec x x (Nat.le_refl _), ← valOf_dec y y (Nat.le_refl _), h]
theorem dec_digit (x : Nat) : ∀ b ∈ decDigits x, b ≠ 44 := by
  intro b hb
  obtain ⟨m, hm, rfl⟩ := List.getElem_of_mem hb
  have := dec_at x m hm
  intro e
  rw [e] at this
  have h44 : (44 : UInt8).toNat = 44 := rfl
  omega

theorem split44 {p q : List UInt8} (hp : ∀ b ∈ p, b ≠ 44) (hq : ∀ b ∈ q, b ≠ 44) {r s : List UInt8} (hr : r = [] ∨ ∃ t, r = 44 :: t) (hs : s = [] ∨ ∃ t, s = 44 :: t) (h : p ++ r = q ++ s) : p = q ∧ r = s := by
  induction p generalizing q with
  | nil =>
    cases q with
    | nil => exact ⟨rfl, h⟩
    | cons b q =>
      rcases hr with rfl | ⟨t, rfl⟩
      · simp at h
      · simp at h
        exact absurd h.1.symm (hq b (by simp))
  | cons a p ih =>
    cases q with
    | nil =>
      rcases hs with rfl | ⟨t, rfl⟩
      · simp at h
      · simp at h
        exact absurd h.1 (hp a (by simp))
    | cons b q =>
      simp only [List.cons_append, List.cons.injEq] at h
      obtain ⟨rfl, h⟩ := h
      obtain ⟨rfl, rfl⟩ := ih (fun b hb => hp b (by simp [hb])) (fun b hb => hq b (by simp [hb])) h
      exact ⟨rfl, rfl⟩

theorem sep_form (r : List Nat) : (if r.isEmpty then [] else 44 :: jbody r) = [] ∨ ∃ t, (if r.isEmpty then ([] : List UInt8) else 44 :: jbody r) = 44 :: t := by
  cases r
  · exact Or.inl rfl
  · exact Or.inr ⟨_, rfl⟩

theorem dec_ne (x : Nat) : decDigits x ≠ [] := by
  intro h
  have := nDigits_pos x
  rw [← decDigits_length, h] at this
  simp at this

theorem jbody_inj : ∀ {a c : List Nat}, jbody a = jbody c → a = c
  | [], [], _ => rfl
  | [], y :: s, h => by
    rw [jbody_cons] at h
    simp only [jbody] at h
    exact absurd (List.append_eq_nil_iff.1 h.symm).1 (dec_ne y)
  | x :: r, [], h => by
    rw [jbody_cons] at h
    simp only [jbody] at h
    exact absurd (List.append_eq_nil_iff.1 h).1 (dec_ne x)
  | x :: r, y :: s, h => by
    rw [jbody_cons, jbody_cons] at h
    obtain ⟨h1, h2⟩ := split44 (dec_digit x) (dec_digit y) (sep_form r) (sep_form s) h
    obtain rfl := dec_inj h1
    cases r with
    | nil =>
      cases s with
      | nil => rfl
      | cons b s => simp at h2
    | cons b r =>
      cases s with
      | nil => simp at h2
      | cons d s =>
        simp only [List.isEmpty_cons, Bool.false_eq_true, if_false, List.cons.injEq, true_and] at h2
        rw [jbody_inj h2]

theorem jenc_inj {a c : List Nat} (h : jenc a = jenc c) : a = c := by
  unfold jenc at h
  simp only [List.cons.injEq, true_and, List.append_cancel_right_eq] at h
  exact jbody_inj h

end Go.Proofs.Qxb6630799aDoor
