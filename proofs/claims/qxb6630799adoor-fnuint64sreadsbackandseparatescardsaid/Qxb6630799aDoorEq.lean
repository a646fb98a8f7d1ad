/-
  DERIVED. THE WALKS OF zzEqBytes AND zzEqU64s.
-/
import Derived.Test.Qxb6630799aDoorBytes
namespace Go.Proofs.Qxb6630799aDoor
open Go.RowKit
open Go.Lib (byteCells byteCells_length decDigits)

set_option maxHeartbeats 400000 in
/-- The two are the same list. -/
theorem eqB_true (v u : Value) (l : List UInt8) (w : World) (hl : l.length ≤ 100000000) (h1 : Rv w v (byteCells l)) (h2 : Rv w u (byteCells l)) :
    Calls Tryd.prog 8 #[v, u] w fun e w' => e = .returned (.bool true) ∧ ∃ n, w' = w.drewN n := by
  obtain ⟨a1, cap1, rfl, hcap1, hn1, hp1⟩ := h1
  obtain ⟨a2, cap2, rfl, hcap2, hn2, hp2⟩ := h2
  rw [len_bytes] at hcap1 hp1 hcap2 hp2 ⊢
  clear hn1 hn2 hcap1 hcap2
  go_enter Tryd.func8, Tryd.ntmps8
  go_wp2
  go_loopw [5] (fun i wr => ∃ (k n : Nat), k ≤ l.length ∧ i = .int .i64 k ∧ wr = w.drewN n) (fun i _ => l.length - (intOf i).toNat)
  case atStart => exact ⟨0, 0, Nat.zero_le _, rfl, rfl⟩
  case round =>
    obtain ⟨k, n, hk, rfl, rfl⟩ := hrel
    by_cases hlt : k < l.length
    · obtain ⟨b1, o1, e1, g1⟩ := hp1 (by omega)
      obtain ⟨b2, o2, e2, g2⟩ := hp2 (by omega)
      subst e1 e2
      have c1 := g1 k _ (byteCells_at l k hlt)
      have c2 := g2 k _ (byteCells_at l k hlt)
      clear hp1 hp2 g1 g2
      go_wp2
      go_quiet (fail)
      go_wp2
      go_roundw
      case rel => exact ⟨k + 1, n + nq, by omega, by go_num, rfl⟩
      case measure => simp [intOf]; omega
    · clear hp1 hp2
      go_wp2
      go_ret
      exact ⟨rfl, _, rfl⟩

end Go.Proofs.Qxb6630799aDoor
