/-
  DERIVED. THE PLAIN MATHEMATICS: the longest span in days of y consecutive calendar years. No Go in sight.
-/
namespace Go.Proofs.Qxb6630774aFmt
set_option maxRecDepth 100000

/-- The Gregorian rule. -/
def leapB (y : Nat) : Bool := y % 400 == 0 || (!(y % 100 == 0) && y % 4 == 0)
/-- The days of year y. -/
def dayN (y : Nat) : Nat := if leapB y then 366 else 365
/-- The days of the years 0 .. n - 1. -/
def pre : Nat → Nat
  | 0 => 0
  | n + 1 => pre n + dayN n
/-- The longest span of r years that starts below n. -/
def best (r : Nat) : Nat → Nat
  | 0 => 0
  | s + 1 => if best r s < pre (s + r) - pre s then pre (s + r) - pre s else best r s
/-- The longest span of y years. -/
def maxDays (y : Nat) : Nat := y / 400 * 146097 + best (y % 400) 400

theorem dayN_le (y : Nat) : 365 ≤ dayN y ∧ dayN y ≤ 366 := by
  unfold dayN
  split <;> omega

theorem pre_add (s r : Nat) : pre s + 365 * r ≤ pre (s + r) ∧ pre (s + r) ≤ pre s + 366 * r := by
  induction r with
  | zero => simp
  | succ r ih =>
    have h := dayN_le (s + r)
    have e : pre (s + (r + 1)) = pre (s + r) + dayN (s + r) := rfl
    rw [e]
    clear e
    generalize pre (s + r) = a at *
    generalize dayN (s + r) = b at *
    generalize pre s = c at *
    omega

theorem pre_le (n : Nat) : pre n ≤ 366 * n := by
  have h := (pre_add 0 n).2
  have e : pre 0 = 0 := rfl
  rw [Nat.zero_add, e] at h
  omega

theorem best_le (r n : Nat) : best r n ≤ 366 * r := by
  induction n with
  | zero => simp [best]
  | succ s ih =>
    have h := pre_add s r
    unfold best
    split <;> omega

theorem best_ge (r n : Nat) (h : 0 < n) : 365 * r ≤ best r n := by
  induction n with
  | zero => omega
  | succ s ih =>
    have h1 := pre_add s r
    unfold best
    split
    · omega
    · rcases Nat.eq_zero_or_pos s with e | e
      · omega
      · have := ih e; omega

theorem best_small : ∀ r, r < 11 → best r 400 ≤ 3653 := by decide +kernel
theorem best_ten : best 10 400 = 3653 := by decide +kernel

theorem maxDays_ten : maxDays 10 = 3653 := by
  unfold maxDays
  rw [show 10 % 400 = 10 from rfl, best_ten]

theorem maxDays_le (y : Nat) : maxDays y ≤ 3653 ↔ y ≤ 10 := by
  unfold maxDays
  constructor
  · intro h
    have h1 := best_ge (y % 400) 400 (by omega)
    omega
  · intro h
    have e : y % 400 = y := Nat.mod_eq_of_lt (by omega)
    have h1 := best_small y (by omega)
    rw [e]
    omega

theorem maxDays_bound (y : Nat) (h : y ≤ 1099511627776) : maxDays y ≤ 1000000000000000 := by
  unfold maxDays
  have h1 := best_le (y % 400) 400
  omega

end Go.Proofs.Qxb6630774aFmt
