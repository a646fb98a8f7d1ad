/-
  DERIVED. THE WALK OF zzlaws_input_b1.zzReverse.
-/
import Derived.Test.Qxb6630733aFmtCut
namespace Go.Proofs.Qxb6630733aFmt
open Go.RowKit Go.Extern.Stop Go.Stop Go.Extern

theorem info5 : Tryf.prog.info? 5 = some Tryf.t5 := by kernel_rfl

theorem make_bytes (w : World) (n : Nat) (hn : n ≤ 1000000) : (Instr.makeSlice 29 (.int .i64 n) (.int .i64 n)).run Tryf.prog w = .ok (.slice (some ⟨w.heap.size, 0, none⟩) n n) (w.alloc (.cells (madeCells #[.int .u8 0] n) 5)) := by
  have h := run_make (P := Tryf.prog) w 29 5 Tryf.t5 (.int .u8 0) Tryf.underlying29 info5 rfl .i64 .i64 n n (by omega) (by omega) (by show ((1 : Nat) : Int) * _ ≤ _; omega) (by omega)
  have e1 : Tryf.t5.size = 1 := rfl
  have e2 : (Value.int .u8 0).cells = #[.int .u8 0] := rfl
  simpa [e1, e2] using h

theorem conv_rev (s : ByteArray) (C : Array Value) (w : World) (h : ∀ j, (h : j < s.size) → C[s.size - 1 - j]? = some (.int .u8 s[j].toNat)) :
    (convert 29 9 (.slice (some ⟨w.heap.size, 0, none⟩) s.size s.size)).run Tryf.prog (w.alloc (.cells C 5)) = .ok (.string ⟨s.data.toList.reverse.toArray⟩) (w.alloc (.cells C 5)) := by
  have hr := run_convert_bytes_back (P := Tryf.prog) (w.alloc (.cells C 5)) 29 9 5 ⟨w.heap.size, 0, none⟩ s.size s.data.toList.reverse Tryf.underlying29 Tryf.underlying5 Tryf.underlying9 (fun j hj => by
    have hj' : j < s.size := by simpa using hj
    have hp : (⟨w.heap.size, 0, none⟩ : Addr).add j = ⟨w.heap.size, j, none⟩ := by unfold Addr.add; split <;> simp_all
    have hc := h (s.size - 1 - j) (by omega)
    have e : s.size - 1 - (s.size - 1 - j) = j := by omega
    rw [e] at hc
    rw [hp, World.cell?_alloc_mark, hc]
    simp only [List.getElem_reverse]
    rfl)
  have hl : s.data.toList.reverse.length = s.size := by simp
  rw [hl] at hr
  exact hr

theorem step_rev (s : ByteArray) (C : Array Value) (k : Nat) (hlt : k < s.size) (hC : C.size = s.size) (h : ∀ j, (h : j < s.size) → j < k → C[s.size - 1 - j]? = some (.int .u8 s[j].toNat)) :
    ∀ j, (h : j < s.size) → j < k + 1 → (C.setIfInBounds (s.size - 1 - k) (.int .u8 s[k].toNat))[s.size - 1 - j]? = some (.int .u8 s[j].toNat) := by
  intro j hj hk
  rw [Array.getElem?_setIfInBounds]
  by_cases e : j = k
  · subst e
    rw [if_pos rfl, if_pos (by omega)]
  · rw [if_neg (by omega)]
    exact h j hj (by omega)

set_option maxHeartbeats 400000 in
theorem rev_any (s : ByteArray) (w : World) (hs : s.size ≤ 1000000) :
    Calls Tryf.prog 8 #[.string s] w fun e w' => e = .returned (.string ⟨s.data.toList.reverse.toArray⟩) ∧ Below w.heap.size w w' := by
  have hmk := fun w => make_bytes w s.size hs
  go_enter Tryf.func8, Tryf.ntmps8
  go_wp2
  go_loopw [4] (fun i wr => ∃ (k : Nat) (C : Array Value), k ≤ s.size ∧ i = .int .i64 k ∧ C.size = s.size ∧ wr = w.alloc (.cells C 5) ∧ Hid (∀ j, (h : j < s.size) → j < k → C[s.size - 1 - j]? = some (.int .u8 s[j].toNat))) (fun i _ => s.size - (intOf i).toNat)
  case atStart => exact ⟨0, _, Nat.zero_le _, rfl, size_madeCells _ _, rfl, fun j _ h => absurd h (Nat.not_lt_zero _)⟩
  case round =>
    obtain ⟨k, C, hk, rfl, hC, rfl, hH⟩ := hrel
    by_cases hlt : k < s.size
    · obtain ⟨v0, hv0⟩ : ∃ v, C[s.size - 1 - k]? = some v := ⟨C[s.size - 1 - k], by rw [Array.getElem?_eq_getElem]⟩
      go_wp2
      go_roundw
      case rel => exact ⟨k + 1, _, by omega, by go_num, by simpa using hC, rfl, step_rev s C k hlt hC hH.out⟩
      case measure => simp [intOf]; omega
    · have hcv := conv_rev s C w (fun j hj => hH.out j hj (by omega))
      go_wp2
      go_ret
      exact ⟨rfl, (Below.refl _ _).alloc (Nat.le_refl _) _⟩

end Go.Proofs.Qxb6630733aFmt
