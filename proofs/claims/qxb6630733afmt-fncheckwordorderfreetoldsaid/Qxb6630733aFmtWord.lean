/-
  DERIVED. THE WALK OF input.CheckWord.
-/
import Derived.Test.Qxb6630733aFmtFacts
import Derived.Test.Qxb6630733aFmtPlain
import Derived.WalkKit
import Derived.WalkSpells
namespace Go.Proofs.Qxb6630733aFmt
open Go.RowKit Go.Extern.Stop Go.Stop Go.Extern

theorem all_getElem (s : ByteArray) (k : Nat) (hlt : k < s.size) (h : s.data.toList.all okc = true) : okc s[k] = true := by
  rw [List.all_eq_true] at h
  exact h _ (by show s.data[k] ∈ s.data.toList; exact Array.getElem_mem_toList _)

set_option maxHeartbeats 400000 in
theorem check_yes (s : ByteArray) (w : World) (hs : s.size ≤ maxLen) (h : wordB s.data.toList = true) :
    Calls Tryf.prog 6 #[.string s] w fun e w' => e = .returned .nilIface ∧ w' = w := by
  unfold maxLen at hs
  unfold wordB at h
  simp only [Bool.and_eq_true, Bool.not_eq_true'] at h
  obtain ⟨hne, hall⟩ := h
  have HA : Hid (s.data.toList.all okc = true) := hall
  have hne' : s.toList.isEmpty = false := by rw [ByteArray.toList_eq]; exact hne
  clear hall hne
  go_enter Tryf.func6, Tryf.ntmps6
  go_wp2
  go_loop [3] (fun i => ∃ k : Nat, k ≤ s.size ∧ i = .int .i64 k) (fun i => s.size - (intOf i).toNat)
  case atStart => exact ⟨0, Nat.zero_le _, rfl⟩
  case round =>
    obtain ⟨k, hk, rfl⟩ := hrel
    by_cases hlt : k < s.size
    · have hc := all_getElem s k hlt HA.out
      rw [okc_iff] at hc
      rcases hc with hc | hc | hc | hc | hc
      all_goals
        go_wp2
        go_round
        case rel => exact ⟨k + 1, by omega, by go_num⟩
        case measure => simp [intOf]; omega
    · go_wp2
      go_ret
      exact ⟨rfl, rfl⟩


theorem all_snoc (s : ByteArray) (k : Nat) (hlt : k < s.size) (h : (s.data.toList.take k).all okc = true) (hk : okc s[k] = true) : (s.data.toList.take (k + 1)).all okc = true := by
  rw [take_snoc s k hlt, List.all_append, h]
  simp [hk]

theorem empty_of (s : ByteArray) (k : Nat) (hk : s.size ≤ k) (h : (s.data.toList.take k).all okc = true) (hw : wordB s.data.toList = false) : s.toList.isEmpty = true := by
  rw [List.take_of_length_le (by simpa using hk)] at h
  unfold wordB at hw
  rw [h] at hw
  rw [ByteArray.toList_eq]
  simpa using hw

set_option maxHeartbeats 1000000 in
theorem check_no (F : Interp) (s : ByteArray) (w : World) (hs : s.size ≤ maxLen) (hF : F.answers w.tape) (h : wordB s.data.toList = false) :
    Calls Tryf.prog 6 #[.string s] w fun e w' => (∃ a, e = .returned (.iface 32 (.pointer (some a)))) ∧ Below w.heap.size w w' := by
  have hF' := answers_open hF
  unfold maxLen at hs
  have HA : Hid (wordB s.data.toList = false) := h
  clear h
  go_enter Tryf.func6, Tryf.ntmps6
  go_wp2
  go_loop [3] (fun i => ∃ k : Nat, k ≤ s.size ∧ i = .int .i64 k ∧ Hid ((s.data.toList.take k).all okc = true)) (fun i => s.size - (intOf i).toNat)
  case atStart => exact ⟨0, Nat.zero_le _, rfl, rfl⟩
  case round =>
    obtain ⟨k, hk, rfl, hal⟩ := hrel
    by_cases hlt : k < s.size
    · by_cases hok : okc s[k] = true
      · have hal' : Hid ((s.data.toList.take (k + 1)).all okc = true) := all_snoc s k hlt hal.out hok
        have hc := (okc_iff _).1 hok
        clear hok
        rcases hc with hc | hc | hc | hc | hc
        all_goals
          go_wp2
          go_round
          case rel => exact ⟨k + 1, by omega, by go_num, hal'⟩
          case measure => simp [intOf]; omega
      · obtain ⟨h95, h45, hc⟩ := okc_not _ hok
        clear hok
        rcases hc with hc | hc | hc | hc
        · go_wp2
          go_ret
          exact ⟨⟨_, rfl⟩, (((Below.refl _ _).alloc (Nat.le_refl _) _).alloc (by simp) _).drew⟩
        · have d1 : decide ((s[k].toNat : Int) ≤ 57) = false := decide_eq_false (by omega)
          go_wp2
          go_ret
          exact ⟨⟨_, rfl⟩, (((Below.refl _ _).alloc (Nat.le_refl _) _).alloc (by simp) _).drew⟩
        · have d1 : decide ((s[k].toNat : Int) ≤ 57) = false := decide_eq_false (by omega)
          have d2 : decide ((s[k].toNat : Int) ≤ 90) = false := decide_eq_false (by omega)
          go_wp2
          go_ret
          exact ⟨⟨_, rfl⟩, (((Below.refl _ _).alloc (Nat.le_refl _) _).alloc (by simp) _).drew⟩
        · have d1 : decide ((s[k].toNat : Int) ≤ 57) = false := decide_eq_false (by omega)
          have d2 : decide ((s[k].toNat : Int) ≤ 90) = false := decide_eq_false (by omega)
          have d3 : decide ((s[k].toNat : Int) ≤ 122) = false := decide_eq_false (by omega)
          go_wp2
          go_ret
          exact ⟨⟨_, rfl⟩, (((Below.refl _ _).alloc (Nat.le_refl _) _).alloc (by simp) _).drew⟩
    · have he := empty_of s k (by omega) hal.out HA.out
      go_wp2
      go_ret
      exact ⟨⟨_, rfl⟩, (Below.refl _ _).alloc (Nat.le_refl _) _⟩

end Go.Proofs.Qxb6630733aFmt
