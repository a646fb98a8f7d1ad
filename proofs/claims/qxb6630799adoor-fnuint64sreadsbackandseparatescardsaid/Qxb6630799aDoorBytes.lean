/-
  DERIVED. SLICES THAT ARE READ; THE WALKS OF zzCloneBytes AND zzEqBytes.
-/
import Derived.Test.Qxb6630799aDoorShelf
import Derived.Test.Qxb6630799aDoorPlain
import Derived.Lib.UnsafeStr
import Derived.Lib.SliceRun
import Derived.WalkKit
import Derived.WalkSpells
import Derived.WalkSmall
import Derived.Deep.QuietTactic
import Derived.BigQuiet
namespace Go.Proofs.Qxb6630799aDoor
open Go.RowKit
open Go.Lib (byteCells byteCells_length decDigits run_eql_slice_nil)

/-- The slice v reads as the cells cs. -/
def Rv (w : World) (v : Value) (cs : List Value) : Prop :=
  ∃ a cap, v = .slice a cs.length cap ∧ cs.length ≤ cap ∧ (a = none → cap = 0) ∧
    (0 < cs.length → ∃ b off, a = some ⟨b, off, none⟩ ∧ ∀ j u, cs[j]? = some u → w.cell? ⟨b, off + j, none⟩ = some u)

theorem Rv.later {w w' : World} {v : Value} {cs : List Value} (h : Rv w v cs) (hb : Below w.heap.size w w') : Rv w' v cs := by
  obtain ⟨a, cap, hv, hc, hn, hp⟩ := h
  refine ⟨a, cap, hv, hc, hn, fun h0 => ?_⟩
  obtain ⟨b, off, ha, hcell⟩ := hp h0
  exact ⟨b, off, ha, fun j u hj => (hb.cell (block_lt_of_cell (hcell j u hj))).trans (hcell j u hj)⟩

theorem Rv.of_own {w : World} {B e : Nat} {v : Value} {n : Nat} {xs : List Value} (h : w.ownsRow B e 1 v n xs) : Rv w v xs := by
  obtain ⟨hl, h⟩ := h
  rw [Nat.mul_one] at hl
  rcases h with ⟨rfl, rfl⟩ | ⟨g, cap, cur, rfl, _, hg, hn, _, _, ht⟩
  · obtain rfl := List.eq_nil_of_length_eq_zero hl
    exact ⟨none, 0, rfl, Nat.le_refl _, fun _ => rfl, fun h => absurd h (Nat.lt_irrefl _)⟩
  · refine ⟨_, cap, by rw [hl], by omega, fun h => by (cases h), fun _ => ⟨g, 0, rfl, fun j u hj => ?_⟩⟩
    rw [cell_of_row w g (0 + j) cur e (0, 0) hg, Nat.zero_add]
    rw [← ht, List.getElem?_take] at hj
    split at hj
    · simpa using hj
    · cases hj

theorem byteCells_at (l : List UInt8) (j : Nat) (h : j < l.length) : (byteCells l)[j]? = some (.int .u8 (l[j].toNat : Int)) := by
  simp [byteCells, h]

theorem len_bytes (l : List UInt8) : (byteCells l).length = l.length := byteCells_length l

theorem info5 : Tryd.prog.info? 5 = some Tryd.t5 := by kernel_rfl

theorem make_bytes (w : World) (n : Nat) (hn : n ≤ 100000000) : (Instr.makeSlice 22 (.int .i64 n) (.int .i64 n)).run Tryd.prog w = .ok (.slice (some ⟨w.heap.size, 0, none⟩) n n) (w.alloc (.cells (madeCells #[.int .u8 0] n) 5)) := by
  have h := run_make (P := Tryd.prog) w 22 5 Tryd.t5 (.int .u8 0) Tryd.underlying22 info5 rfl .i64 .i64 n n (by omega) (by omega) (by show ((1 : Nat) : Int) * _ ≤ _; omega) (by omega)
  have e1 : Tryd.t5.size = 1 := rfl
  have e2 : (Value.int .u8 0).cells = #[.int .u8 0] := rfl
  simpa [e1, e2] using h

theorem own_of_cells (w : World) (C : Array Value) (l : List UInt8) (hC : C.size = l.length) (hm : l.length ≤ 100000000) (h : ∀ j, (h : j < l.length) → C[j]? = some (.int .u8 (l[j].toNat : Int))) :
    (w.alloc (.cells C 5)).ownsRow w.heap.size 5 1 (.slice (some ⟨w.heap.size, 0, none⟩) l.length l.length) l.length (byteCells l) := by
  refine ⟨by rw [len_bytes, Nat.mul_one], Or.inr ⟨w.heap.size, l.length, C, rfl, Nat.le_refl _, heap_alloc_new _ _, Nat.le_refl _, by unfold maxLen; omega, by rw [hC, Nat.mul_one], ?_⟩⟩
  rw [Nat.mul_one, List.take_of_length_le (by simp [hC])]
  apply List.ext_getElem?
  intro j
  by_cases hj : j < l.length
  · rw [byteCells_at l j hj, ← h j hj]
    simp
  · rw [List.getElem?_eq_none (by simp [hC]; omega), List.getElem?_eq_none (by rw [len_bytes]; omega)]

theorem step_clone (C : Array Value) (l : List UInt8) (k : Nat) (hlt : k < l.length) (hC : C.size = l.length) (h : ∀ j, (h : j < l.length) → j < k → C[j]? = some (.int .u8 (l[j].toNat : Int))) :
    ∀ j, (h : j < l.length) → j < k + 1 → (C.setIfInBounds k (.int .u8 (l[k].toNat : Int)))[j]? = some (.int .u8 (l[j].toNat : Int)) := by
  intro j hj hk
  rw [Array.getElem?_setIfInBounds]
  by_cases e : k = j
  · subst e
    rw [if_pos rfl, if_pos (by omega)]
  · rw [if_neg e]
    exact h j hj (by omega)

set_option maxHeartbeats 400000 in
/-- zzCloneBytes: what comes back owns the bytes. -/
theorem clone (v : Value) (l : List UInt8) (w : World) (hl : l.length ≤ 100000000) (h : Rv w v (byteCells l)) :
    Calls Tryd.prog 6 #[v] w fun e w' => ∃ v', e = .returned v' ∧ w'.ownsRow w.heap.size 5 1 v' l.length (byteCells l) ∧ Below w.heap.size w w' := by
  obtain ⟨a, cap, rfl, hcap, hn, hp⟩ := h
  rw [len_bytes] at hcap hp ⊢
  have heq := fun (w : World) (a : Option Addr) (n c : Nat) => run_eql_slice_nil (P := Tryd.prog) w 22 5 a n c 0 0 Tryd.underlying22
  cases a with
  | none =>
    have h0 := hn rfl
    have hl0 : l.length = 0 := by omega
    obtain rfl := List.eq_nil_of_length_eq_zero hl0
    subst h0
    go_enter Tryd.func6, Tryd.ntmps6
    go_wp2
    go_ret
    exact ⟨_, rfl, World.ownsRow_nil _ _ _ _, Below.refl _ _⟩
  | some x =>
    have hmk := fun w => make_bytes w l.length hl
    go_enter Tryd.func6, Tryd.ntmps6
    go_wp2
    go_loopw [4] (fun i wr => ∃ (k : Nat) (C : Array Value), k ≤ l.length ∧ i = .int .i64 k ∧ Hid (C.size = l.length) ∧ wr = w.alloc (.cells C 5) ∧ Hid (∀ j, (h : j < l.length) → j < k → C[j]? = some (.int .u8 (l[j].toNat : Int)))) (fun i _ => l.length - (intOf i).toNat)
    case atStart => exact ⟨0, _, Nat.zero_le _, rfl, size_madeCells _ _, rfl, fun j _ h => absurd h (Nat.not_lt_zero _)⟩
    case round =>
      obtain ⟨k, C, hk, rfl, hC, rfl, hH⟩ := hrel
      by_cases hlt : k < l.length
      · obtain ⟨b, off, hx, hcell⟩ := hp (by omega)
        obtain rfl := Option.some.inj hx
        have c0 := hcell k _ (byteCells_at l k hlt)
        have hb := block_lt_of_cell c0
        simp only at hb
        obtain ⟨v1, c1⟩ : ∃ v, C[k]? = some v := ⟨C[k]'(by rw [hC.out]; omega), by rw [Array.getElem?_eq_getElem]⟩
        clear hcell hp hn hx
        go_wp2
        go_roundw
        case rel => exact ⟨k + 1, _, by omega, by go_num, (Array.size_setIfInBounds).trans hC.out, rfl, step_clone C l k hlt hC.out hH.out⟩
        case measure => simp [intOf]; omega
      · have hown := own_of_cells w C l hC.out hl (fun j hj => hH.out j hj (by omega))
        clear hp hn
        go_wp2
        go_ret
        exact ⟨_, rfl, hown, (Below.refl _ _).alloc (Nat.le_refl _) _⟩

end Go.Proofs.Qxb6630799aDoor
