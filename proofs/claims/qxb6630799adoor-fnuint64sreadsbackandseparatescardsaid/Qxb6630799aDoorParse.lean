/-
  DERIVED. THE WALK OF zzReadsBackAs.
-/
import Derived.Test.Qxb6630799aDoorCuts
import Derived.Test.Qxb6630799aDoorRead
namespace Go.Proofs.Qxb6630799aDoor
open Go.RowKit
open Go.Lib (byteCells byteCells_length decDigits)

/-- What lies ahead at the head of the outer loop. -/
structure Ahead (l : List Nat) (i j : Nat) : Prop where
  hj : j < l.length
  ht : (jenc l).drop i = jbody (l.drop j) ++ [93]

theorem Ahead.start (l : List Nat) (h : 0 < l.length) : Ahead l 1 0 := ⟨h, rfl⟩

/-- The byte at place i + m of the text, by what lies ahead. -/
theorem at_drop {t : List UInt8} {i m : Nat} {r : List UInt8} (h : t.drop i = r) (hm : m < r.length) : ∃ hk : i + m < t.length, t[i + m] = r[m] := by
  have hk : i + m < t.length := by
    have := congrArg List.length h
    rw [List.length_drop] at this
    omega
  refine ⟨hk, ?_⟩
  have : (t.drop i)[m]? = r[m]? := by rw [h]
  rw [List.getElem?_drop, List.getElem?_eq_getElem hk, List.getElem?_eq_getElem hm] at this
  exact Option.some.inj this

theorem Ahead.text {l : List Nat} {i j : Nat} (h : Ahead l i j) : (jenc l).drop i = decDigits (l[j]'h.hj) ++ ((if (l.drop (j + 1)).isEmpty then [] else 44 :: jbody (l.drop (j + 1))) ++ [93]) := by
  rw [h.ht, List.drop_eq_getElem_cons h.hj, jbody_cons, List.append_assoc]

/-- The facts at one number: D its digits, p + 2 the text's length. -/
theorem Ahead.facts {l : List Nat} {i j : Nat} (h : Ahead l i j) (p : Nat) (hp : (jbody l).length = p) :
    i + (decDigits (l[j]'h.hj)).length ≤ p + 1 ∧ (i + (decDigits (l[j]'h.hj)).length = p + 1 ↔ j + 1 = l.length) ∧
    (∀ m, (hm : m < (decDigits (l[j]'h.hj)).length) → ∃ hk : i + m < (jenc l).length, (jenc l)[i + m] = (decDigits (l[j]'h.hj))[m]) ∧
    (j + 1 < l.length → (∃ hk : i + (decDigits (l[j]'h.hj)).length < (jenc l).length, (jenc l)[i + (decDigits (l[j]'h.hj)).length] = 44) ∧ Ahead l (i + (decDigits (l[j]'h.hj)).length + 1) (j + 1)) := by
  have ht := h.text
  have hlen := congrArg List.length ht
  rw [List.length_drop, jenc_length, hp, List.length_append, List.length_append] at hlen
  have hdl : 1 ≤ (decDigits (l[j]'h.hj)).length := by
    have := Lib.nDigits_pos (l[j]'h.hj)
    rwa [← Lib.decDigits_length] at this
  by_cases hl : j + 1 < l.length
  · have he : (l.drop (j + 1)).isEmpty = false := by
      rw [Bool.eq_false_iff]
      intro e
      rw [List.isEmpty_iff, List.drop_eq_nil_iff] at e
      omega
    rw [he] at ht hlen
    simp only [Bool.false_eq_true, if_false, List.length_cons] at hlen
    simp only [Bool.false_eq_true, if_false] at ht
    refine ⟨by omega, ⟨fun e => by simp at hlen; omega, fun e => by omega⟩, ?_, fun _ => ⟨?_, hl, ?_⟩⟩
    · intro m hm
      obtain ⟨hk, e⟩ := at_drop (m := m) ht (by rw [List.length_append]; omega)
      exact ⟨hk, by rw [e, List.getElem_append_left hm]⟩
    · obtain ⟨hk, e⟩ := at_drop (m := (decDigits (l[j]'h.hj)).length) ht (by rw [List.length_append]; simp)
      exact ⟨hk, by rw [e, List.getElem_append_right (Nat.le_refl _)]; simp⟩
    · rw [Nat.add_assoc, ← List.drop_drop, ht, ← List.drop_drop, List.drop_left]
      rfl
  · have e1 : l.drop (j + 1) = [] := List.drop_of_length_le (by omega)
    have he : (l.drop (j + 1)).isEmpty = true := by rw [e1]; rfl
    rw [he] at ht hlen
    simp only [if_true, List.length_nil] at hlen
    have hj := h.hj
    refine ⟨by simp at hlen; omega, ⟨fun _ => by omega, fun _ => by simp at hlen; omega⟩, ?_, fun h' => absurd h' hl⟩
    intro m hm
    obtain ⟨hk, e⟩ := at_drop (m := m) ht (by rw [List.length_append]; omega)
    exact ⟨hk, by rw [e, List.getElem_append_left hm]⟩

end Go.Proofs.Qxb6630799aDoor
