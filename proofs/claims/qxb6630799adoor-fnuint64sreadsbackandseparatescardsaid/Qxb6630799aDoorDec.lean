/-
  DERIVED. THE WALK OF zzDecimal.
-/
import Derived.Test.Qxb6630799aDoorEnc
namespace Go.Proofs.Qxb6630799aDoor
open Go.RowKit
open Go.Lib (byteCells byteCells_length decDigits)

theorem dec_small (x : Nat) (h : x < 10) : decDigits x = [UInt8.ofNat (48 + x % 10)] := by
  rw [decDigits, dif_pos h, Nat.mod_eq_of_lt h]
theorem dec_big (x : Nat) (h : ¬ x < 10) : decDigits x = decDigits (x / 10) ++ [UInt8.ofNat (48 + x % 10)] := by
  rw [decDigits, dif_neg h]

def z20 : Array Value := #[.int .u8 0, .int .u8 0, .int .u8 0, .int .u8 0, .int .u8 0, .int .u8 0, .int .u8 0, .int .u8 0, .int .u8 0, .int .u8 0, .int .u8 0, .int .u8 0, .int .u8 0, .int .u8 0, .int .u8 0, .int .u8 0, .int .u8 0, .int .u8 0, .int .u8 0, .int .u8 0]
theorem run_alloc34 (w : World) : (Instr.alloc 34 true (.tuple #[])).run Tryd.prog w = .ok (.pointer (some ⟨w.heap.size, 0, none⟩)) (w.alloc (.cells z20 34)) := by kernel_rfl
theorem wpList_alloc34 {ops : Array Oper} {rest : List Oper} {o : Oper} {a : Act} {w : World} {Q : Exit → Act → World → Prop} (hgd : o.guard = none) (ho : o.op = .alloc 34)
    (h : wpList Tryd.prog ops Q rest (a.put o.dst (.pointer (some ⟨w.heap.size, 0, none⟩))) (w.alloc (.cells z20 34))) : wpList Tryd.prog ops Q (o :: rest) a w :=
  wpList_plain hgd fun _ hK => by
    unfold Oper.wp execOp
    simp only [ho, run_alloc34, Sem.run_bind, Result.andThen_ok]
    exact hK _ _ h

theorem dig_byte (x : Nat) : (48 : Int) + (x : Int) % 10 = ((UInt8.ofNat (48 + x % 10)).toNat : Int) := by
  rw [UInt8.toNat_ofNat_of_lt' (by simp [UInt8.size]; omega)]
  omega

theorem step_buf (C : Array Value) (M x : Nat) (tl : List UInt8) (hC : C.size = 20) (hM : M < 20) (h : ∀ j, (h : j < tl.length) → C[M + 1 + j]? = some (.int .u8 (tl[j].toNat : Int))) :
    ∀ j, (h : j < (UInt8.ofNat (48 + x % 10) :: tl).length) → (C.setIfInBounds M (.int .u8 (48 + (x : Int) % 10)))[M + j]? = some (.int .u8 ((UInt8.ofNat (48 + x % 10) :: tl)[j].toNat : Int)) := by
  intro j hj
  rw [Array.getElem?_setIfInBounds]
  cases j with
  | zero =>
    rw [if_pos (by omega), if_pos (by omega), dig_byte]
    rfl
  | succ j =>
    rw [if_neg (by omega), show M + (j + 1) = M + 1 + j by omega]
    exact h j (by simpa using hj)

theorem make_len (w : World) (M L : Nat) (h : M + L = 20) : (Instr.makeSlice 22 (.int .i64 (20 - (M : Int))) (.int .i64 (20 - (M : Int)))).run Tryd.prog w = .ok (.slice (some ⟨w.heap.size, 0, none⟩) L L) (w.alloc (.cells (madeCells #[.int .u8 0] L) 5)) := by
  rw [show (20 - (M : Int)) = (L : Int) by omega]
  exact make_bytes w L (by omega)

set_option maxHeartbeats 400000 in
theorem decimal (u : Nat) (w : World) (hu : u < 18446744073709551616) :
    Calls Tryd.prog 9 #[.int .u64 u] w fun e w' => ∃ v', e = .returned v' ∧ Rv w' v' (byteCells (decDigits u)) ∧ Below w.heap.size w w' := by
  have HL : Hid (1 ≤ (decDigits u).length ∧ (decDigits u).length ≤ 20) := dec_length u hu
  have HU : Hid (u < 18446744073709551616) := hu
  clear hu
  go_enter Tryd.func9, Tryd.ntmps9
  go_wp2_with (first | refine wpList_alloc34 rfl rfl ?_)
  go_loopw [0, 4] (fun v i wr => ∃ (x m : Nat) (C : Array Value) (tl : List UInt8), v = .int .u64 x ∧ i = .int .i64 m ∧ m + tl.length = 20 ∧ Hid (x < 18446744073709551616) ∧ Hid (C.size = 20) ∧ wr = w.alloc (.cells C 34) ∧ Hid (decDigits u = decDigits x ++ tl) ∧ Hid (∀ j, (h : j < tl.length) → C[m + j]? = some (.int .u8 (tl[j].toNat : Int)))) (fun _ i _ => (intOf i).toNat)
  case atStart => exact ⟨u, 20, z20, [], rfl, rfl, rfl, HU, (show z20.size = 20 from rfl), rfl, (List.append_nil _).symm, fun j h => absurd h (Nat.not_lt_zero _)⟩
  case round =>
    obtain ⟨x, m, C, tl, rfl, rfl, hm, hx, hC, rfl, hD, hT⟩ := hrel
    have hx1 := dec_length x hx.out
    have hx2 := congrArg List.length hD.out
    rw [List.length_append] at hx2
    have hm1 : 1 ≤ m := by have := HL.out; omega
    obtain ⟨M, rfl⟩ : ∃ M, m = M + 1 := ⟨m - 1, by omega⟩
    obtain ⟨v1, c1⟩ : ∃ v, C[M]? = some v := ⟨C[M]'(by rw [hC.out]; omega), by rw [Array.getElem?_eq_getElem]⟩
    have HS : Hid (∀ j, (h : j < (UInt8.ofNat (48 + x % 10) :: tl).length) → (C.setIfInBounds M (.int .u8 (48 + (x : Int) % 10)))[M + j]? = some (.int .u8 ((UInt8.ofNat (48 + x % 10) :: tl)[j].toNat : Int))) := step_buf C M x tl hC.out (by omega) hT.out
    clear hx2 hx1 hm1
    by_cases h10 : x < 10
    · have HE : Hid (decDigits u = UInt8.ofNat (48 + x % 10) :: tl) := by
        show decDigits u = _
        rw [hD.out, dec_small x h10]; rfl
      have HN : Hid ((decDigits u).length = tl.length + 1) := by show (decDigits u).length = _; rw [HE.out]; rfl
      obtain ⟨L, hL⟩ : ∃ L, L = (decDigits u).length := ⟨_, rfl⟩
      have HLL : Hid (L = (decDigits u).length) := hL
      have hML : M + L = 20 := by rw [hL, HN.out]; omega
      clear hL hT hD
      have hmk := fun w => make_len w M L hML
      go_wp2
      go_loopw [6] (fun i wr => ∃ (k : Nat) (E D : Array Value), k ≤ L ∧ i = .int .i64 ((M : Int) + k) ∧ wr = (w.alloc (.cells E 34)).alloc (.cells D 5) ∧ Hid (D.size = L) ∧ Hid (∀ j, (h : j < (decDigits u).length) → E[M + j]? = some (.int .u8 ((decDigits u)[j].toNat : Int))) ∧ Hid (∀ j, (h : j < (decDigits u).length) → j < k → D[j]? = some (.int .u8 ((decDigits u)[j].toNat : Int)))) (fun i _ => 20 - (intOf i).toNat)
      case atStart =>
        refine ⟨0, _, _, Nat.zero_le _, by simp, rfl, size_madeCells _ _, ?_, fun j _ h => absurd h (Nat.not_lt_zero _)⟩
        show ∀ j, (h : j < (decDigits u).length) → _
        rw [HE.out]
        exact HS.out
      case round =>
        obtain ⟨k, E, D, hk, rfl, rfl, hDs, hE, hDD⟩ := hrel
        by_cases hlt : k < L
        · have hkd : k < (decDigits u).length := by rw [← HLL.out]; exact hlt
          have c0 := hE.out k hkd
          obtain ⟨v2, c2⟩ : ∃ v, D[k]? = some v := ⟨D[k]'(by rw [hDs.out]; omega), by rw [Array.getElem?_eq_getElem]⟩
          have HSt : Hid (∀ j, (h : j < (decDigits u).length) → j < k + 1 → (D.setIfInBounds k (.int .u8 ((decDigits u)[k].toNat : Int)))[j]? = some (.int .u8 ((decDigits u)[j].toNat : Int))) := step_clone D (decDigits u) k hkd (by rw [hDs.out]; exact HLL.out) hDD.out
          generalize ((decDigits u)[k].toNat : Int) = bb at c0 HSt
          clear hkd
          go_wp2
          go_roundw
          case rel => exact ⟨k + 1, E, _, by omega, by go_num, rfl, (Array.size_setIfInBounds).trans hDs.out, hE, HSt⟩
          case measure => simp [intOf]; omega
        · have HRv : Hid (Rv ((w.alloc (.cells E 34)).alloc (.cells D 5)) (.slice (some ⟨w.heap.size + 1, 0, none⟩) L L) (byteCells (decDigits u))) := by
            show Rv _ _ _
            have := Rv.of_own (own_of_cells (w.alloc (.cells E 34)) D (decDigits u) (by rw [hDs.out]; exact HLL.out) (by have := HL.out; omega) (fun j hj => hDD.out j hj (by rw [← HLL.out] at hj; omega)))
            rw [← HLL.out] at this
            simpa using this
          go_wp2
          go_ret
          exact ⟨_, rfl, HRv.out, ((Below.refl _ _).alloc (Nat.le_refl _) _).alloc (by simp) _⟩
    · have h0 : ((x : Int) / 10 == 0) = false := by simp; omega
      have hwr : IntKind.u64.wrap ((x : Int) / 10) = (x : Int) / 10 := by rw [IntKind.wrap_u64]; have := hx.out; omega
      have HX : Hid (x / 10 < 18446744073709551616) := by show x / 10 < _; have := hx.out; omega
      have HE : Hid (decDigits u = decDigits (x / 10) ++ (UInt8.ofNat (48 + x % 10) :: tl)) := by
        show decDigits u = _
        rw [hD.out, dec_big x h10]; simp
      have hx1 := dec_length (x / 10) HX.out
      have hx2 := congrArg List.length HE.out
      rw [List.length_append] at hx2
      have hM1 : ((M : Int) == 0) = false := by have := HL.out; simp at hx2; simp; omega
      clear hx1 hx2 hT hD
      go_wp2
      go_roundw
      case rel => exact ⟨x / 10, M, _, _, by go_num, rfl, by simp; omega, HX, (Array.size_setIfInBounds).trans hC.out, rfl, HE, HS⟩
      case measure => simp [intOf]

end Go.Proofs.Qxb6630799aDoor
