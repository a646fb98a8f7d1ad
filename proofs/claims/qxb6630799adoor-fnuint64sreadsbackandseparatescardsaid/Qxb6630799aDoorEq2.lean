/-
  DERIVED. THE WALKS OF zzEqBytes AND zzEqU64s: all answers.
-/
import Derived.Test.Qxb6630799aDoorCuts
namespace Go.Proofs.Qxb6630799aDoor
open Go.RowKit
open Go.Lib (byteCells byteCells_length decDigits)

theorem eqB_take (l m : List UInt8) (k : Nat) (h1 : k < l.length) (h2 : k < m.length) (h : l.take k = m.take k) (e : l[k] = m[k]) : l.take (k + 1) = m.take (k + 1) := by
  rw [List.take_succ_eq_append_getElem h1, List.take_succ_eq_append_getElem h2, h, e]

set_option maxHeartbeats 400000 in
/-- The two are not the same list. -/
theorem eqB_false (v u : Value) (l m : List UInt8) (w : World) (hl : l.length ≤ 100000000) (hne : l ≠ m) (h1 : Rv w v (byteCells l)) (h2 : Rv w u (byteCells m)) :
    Calls Tryd.prog 8 #[v, u] w fun e w' => e = .returned (.bool false) ∧ ∃ n, w' = w.drewN n := by
  obtain ⟨a1, cap1, rfl, -, -, hp1⟩ := h1
  obtain ⟨a2, cap2, rfl, -, -, hp2⟩ := h2
  rw [len_bytes] at hp1 hp2 ⊢
  rw [len_bytes]
  by_cases hlen : l.length = m.length
  · have HLM : Hid (l.length = m.length) := hlen
    have HNE : Hid (l ≠ m) := hne
    rw [← hlen]
    rw [← hlen] at hp2
    clear hlen hne
    go_enter Tryd.func8, Tryd.ntmps8
    go_wp2
    go_loopw [5] (fun i wr => ∃ (k n : Nat), k ≤ l.length ∧ i = .int .i64 k ∧ wr = w.drewN n ∧ Hid (l.take k = m.take k)) (fun i _ => l.length - (intOf i).toNat)
    case atStart => exact ⟨0, 0, Nat.zero_le _, rfl, rfl, rfl⟩
    case round =>
      obtain ⟨k, n, hk, rfl, rfl, hT⟩ := hrel
      by_cases hlt : k < l.length
      · obtain ⟨b1, o1, e1, g1⟩ := hp1 (by omega)
        obtain ⟨b2, o2, e2, g2⟩ := hp2 (by omega)
        subst e1 e2
        have hlt2 : k < m.length := by rw [← HLM.out]; exact hlt
        have c1 := g1 k _ (byteCells_at l k hlt)
        have c2 := g2 k _ (byteCells_at m k hlt2)
        clear hp1 hp2 g1 g2
        by_cases he : l[k] = m[k]
        · have HT2 : Hid (l.take (k + 1) = m.take (k + 1)) := eqB_take l m k hlt hlt2 hT.out he
          rw [← he] at c2
          generalize ((l[k]).toNat : Int) = z at c1 c2
          clear he hlt2
          go_wp2
          go_quiet (fail)
          go_wp2
          go_roundw
          case rel => exact ⟨k + 1, n + nq, by omega, by go_num, rfl, HT2⟩
          case measure => simp [intOf]; omega
        · have hz : ¬ ((l[k]).toNat : Int) = ((m[k]).toNat : Int) := fun e => he (UInt8.toNat_inj.1 (by omega))
          generalize ((l[k]).toNat : Int) = z1 at c1 hz
          generalize ((m[k]).toNat : Int) = z2 at c2 hz
          have hz' : (z1 == z2) = false := by simpa using hz
          clear he hlt2 hz
          go_wp2
          go_quiet (fail)
          go_wp2
          go_ret
          exact ⟨rfl, n + nq, by simp⟩
      · exfalso
        have h := hT.out
        rw [List.take_of_length_le (by omega), List.take_of_length_le (by rw [← HLM.out]; omega)] at h
        exact HNE.out h
  · have hlI : ((l.length : Int) == (m.length : Int)) = false := by simp; omega
    clear hp1 hp2 hlen hne
    go_enter Tryd.func8, Tryd.ntmps8
    go_wp2
    go_ret
    exact ⟨rfl, 0, rfl⟩

set_option maxHeartbeats 400000 in
/-- The two are the same list. -/
theorem eqU_true (v u : Value) (l : List Nat) (w : World) (hl : l.length ≤ 100000000) (h1 : Rv w v (usCells l)) (h2 : Rv w u (usCells l)) :
    Calls Tryd.prog 12 #[v, u] w fun e w' => e = .returned (.bool true) ∧ ∃ n, w' = w.drewN n := by
  obtain ⟨a1, cap1, rfl, hcap1, hn1, hp1⟩ := h1
  obtain ⟨a2, cap2, rfl, hcap2, hn2, hp2⟩ := h2
  rw [len_us] at hcap1 hp1 hcap2 hp2 ⊢
  clear hn1 hn2 hcap1 hcap2
  go_enter Tryd.func12, Tryd.ntmps12
  go_wp2
  go_loopw [5] (fun i wr => ∃ (k n : Nat), k ≤ l.length ∧ i = .int .i64 k ∧ wr = w.drewN n) (fun i _ => l.length - (intOf i).toNat)
  case atStart => exact ⟨0, 0, Nat.zero_le _, rfl, rfl⟩
  case round =>
    obtain ⟨k, n, hk, rfl, rfl⟩ := hrel
    by_cases hlt : k < l.length
    · obtain ⟨b1, o1, e1, g1⟩ := hp1 (by omega)
      obtain ⟨b2, o2, e2, g2⟩ := hp2 (by omega)
      subst e1 e2
      have c1 := g1 k _ (usCells_at l k hlt)
      have c2 := g2 k _ (usCells_at l k hlt)
      clear hp1 hp2 g1 g2
      go_wp2
      go_quiet (fail)
      go_wp2
      go_roundw
      case rel => exact ⟨k + 1, n + nq, by omega, by go_num, rfl⟩
      case measure => simp [intOf]; omega
    · clear hp1 hp2
      go_wp2
      go_ret
      exact ⟨rfl, _, rfl⟩

theorem eqU_take (l m : List Nat) (k : Nat) (h1 : k < l.length) (h2 : k < m.length) (h : l.take k = m.take k) (e : l[k] = m[k]) : l.take (k + 1) = m.take (k + 1) := by
  rw [List.take_succ_eq_append_getElem h1, List.take_succ_eq_append_getElem h2, h, e]

set_option maxHeartbeats 400000 in
/-- The two are not the same list. -/
theorem eqU_false (v u : Value) (l m : List Nat) (w : World) (hl : l.length ≤ 100000000) (hne : l ≠ m) (h1 : Rv w v (usCells l)) (h2 : Rv w u (usCells m)) :
    Calls Tryd.prog 12 #[v, u] w fun e w' => e = .returned (.bool false) ∧ ∃ n, w' = w.drewN n := by
  obtain ⟨a1, cap1, rfl, -, -, hp1⟩ := h1
  obtain ⟨a2, cap2, rfl, -, -, hp2⟩ := h2
  rw [len_us] at hp1 hp2 ⊢
  rw [len_us]
  by_cases hlen : l.length = m.length
  · have HLM : Hid (l.length = m.length) := hlen
    have HNE : Hid (l ≠ m) := hne
    rw [← hlen]
    rw [← hlen] at hp2
    clear hlen hne
    go_enter Tryd.func12, Tryd.ntmps12
    go_wp2
    go_loopw [5] (fun i wr => ∃ (k n : Nat), k ≤ l.length ∧ i = .int .i64 k ∧ wr = w.drewN n ∧ Hid (l.take k = m.take k)) (fun i _ => l.length - (intOf i).toNat)
    case atStart => exact ⟨0, 0, Nat.zero_le _, rfl, rfl, rfl⟩
    case round =>
      obtain ⟨k, n, hk, rfl, rfl, hT⟩ := hrel
      by_cases hlt : k < l.length
      · obtain ⟨b1, o1, e1, g1⟩ := hp1 (by omega)
        obtain ⟨b2, o2, e2, g2⟩ := hp2 (by omega)
        subst e1 e2
        have hlt2 : k < m.length := by rw [← HLM.out]; exact hlt
        have c1 := g1 k _ (usCells_at l k hlt)
        have c2 := g2 k _ (usCells_at m k hlt2)
        clear hp1 hp2 g1 g2
        by_cases he : l[k] = m[k]
        · have HT2 : Hid (l.take (k + 1) = m.take (k + 1)) := eqU_take l m k hlt hlt2 hT.out he
          rw [← he] at c2
          generalize ((l[k] : Nat) : Int) = z at c1 c2
          clear he hlt2
          go_wp2
          go_quiet (fail)
          go_wp2
          go_roundw
          case rel => exact ⟨k + 1, n + nq, by omega, by go_num, rfl, HT2⟩
          case measure => simp [intOf]; omega
        · have hz : ¬ ((l[k] : Nat) : Int) = ((m[k] : Nat) : Int) := fun e => he (by omega)
          generalize ((l[k] : Nat) : Int) = z1 at c1 hz
          generalize ((m[k] : Nat) : Int) = z2 at c2 hz
          have hz' : (z1 == z2) = false := by simpa using hz
          clear he hlt2 hz
          go_wp2
          go_quiet (fail)
          go_wp2
          go_ret
          exact ⟨rfl, n + nq, by simp⟩
      · exfalso
        have h := hT.out
        rw [List.take_of_length_le (by omega), List.take_of_length_le (by rw [← HLM.out]; omega)] at h
        exact HNE.out h
  · have hlI : ((l.length : Int) == (m.length : Int)) = false := by simp; omega
    clear hp1 hp2 hlen hne
    go_enter Tryd.func12, Tryd.ntmps12
    go_wp2
    go_ret
    exact ⟨rfl, 0, rfl⟩

end Go.Proofs.Qxb6630799aDoor
