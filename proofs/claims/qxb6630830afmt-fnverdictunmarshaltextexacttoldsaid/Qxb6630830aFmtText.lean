/-
  DERIVED. SLICES OF BYTES THAT ARE READ; THE WALKS OF (*Verdict).UnmarshalText.
-/
import Derived.Test.Qxb6630830aFmtCalls
namespace Go.Proofs.Qxb6630830aFmt
open Go.RowKit Go.Extern.Stop Go.Stop Go.Extern
open Go.Lib (byteCells byteCells_length)

/-- The slice v reads as the cells cs. -/
def Rv (w : World) (v : Value) (cs : List Value) : Prop :=
  ∃ a cap, v = .slice a cs.length cap ∧ (a = none → cap = 0) ∧
    (0 < cs.length → ∃ b off, a = some ⟨b, off, none⟩ ∧ ∀ j u, cs[j]? = some u → w.cell? ⟨b, off + j, none⟩ = some u)

theorem Rv.later {w w' : World} {v : Value} {cs : List Value} (h : Rv w v cs) (hb : Below w.heap.size w w') : Rv w' v cs := by
  obtain ⟨a, cap, hv, hn, hp⟩ := h
  refine ⟨a, cap, hv, hn, fun h0 => ?_⟩
  obtain ⟨b, off, ha, hcell⟩ := hp h0
  exact ⟨b, off, ha, fun j u hj => (hb.cell (block_lt_of_cell (hcell j u hj))).trans (hcell j u hj)⟩

theorem byteCells_at (l : List UInt8) (j : Nat) (h : j < l.length) : (byteCells l)[j]? = some (.int .u8 (l[j].toNat : Int)) := by
  simp [byteCells, h]

theorem len_bytes (l : List UInt8) : (byteCells l).length = l.length := byteCells_length l

theorem add_plain' (b off j : Nat) : (⟨b, off, none⟩ : Addr).add j = ⟨b, off + j, none⟩ := by unfold Addr.add; split <;> simp_all

/-- string(v). -/
theorem conv_of (w : World) (v : Value) (l : List UInt8) (h : Rv w v (byteCells l)) : (convert 22 9 v).run Tryf.prog w = .ok (.string ⟨l.toArray⟩) w := by
  obtain ⟨a, cap, rfl, hn, hp⟩ := h
  rw [len_bytes] at hp ⊢
  by_cases h0 : 0 < l.length
  · obtain ⟨b, off, rfl, hcell⟩ := hp h0
    exact run_convert_bytes_back w 22 9 5 ⟨b, off, none⟩ cap l Tryf.underlying22 Tryf.underlying5 Tryf.underlying9 (fun j hj => by rw [add_plain']; exact hcell j _ (byteCells_at l j hj))
  · obtain rfl := List.eq_nil_of_length_eq_zero (Nat.eq_zero_of_not_pos h0)
    cases a with
    | none => exact run_convert_bytes_nil w 22 5 Tryf.underlying22 Tryf.underlying5 0 cap 9 Tryf.underlying9
    | some x => exact run_convert_bytes_back w 22 9 5 x cap [] Tryf.underlying22 Tryf.underlying5 Tryf.underlying9 (fun j hj => absurd hj (Nat.not_lt_zero _))

/-- What fmt reads of it. -/
theorem op_of (w : World) (v : Value) (l : List UInt8) (h : Rv w v (byteCells l)) : ∃ sh vl, ∀ name, (FmtStop.operand name true 113 false (.iface 22 v)).run Tryf.prog w = .ok (sh, vl) w := by
  obtain ⟨a, cap, rfl, hn, hp⟩ := h
  have e : byteCells l = (l.map fun b => (b.toNat : Int)).map (Value.int .u8) := by unfold byteCells; rw [List.map_map]; rfl
  rw [e] at hp ⊢
  have e2 : ((l.map fun b => (b.toNat : Int)).map (Value.int .u8)).length = (l.map fun b => (b.toNat : Int)).length := List.length_map _
  rw [e2] at hp ⊢
  have hlen : (l.map fun b => (b.toNat : Int)).length = l.length := List.length_map _
  by_cases h0 : 0 < l.length
  · obtain ⟨b, off, rfl, hcell⟩ := hp (by rw [hlen]; exact h0)
    exact ⟨_, _, fun name => Tryf.opBytes_113w name ⟨b, off, none⟩ cap _ w (fun j u hj => by rw [add_plain']; exact hcell j u hj)⟩
  · obtain rfl := List.eq_nil_of_length_eq_zero (Nat.eq_zero_of_not_pos h0)
    cases a with
    | none =>
      have := hn rfl
      subst this
      exact ⟨_, _, fun name => Tryf.opNil_113w name w⟩
    | some x => exact ⟨_, _, fun name => Tryf.opBytes_113w name x cap [] w (fun j u hj => by simp at hj)⟩

theorem i0 (w : World) : (Instr.index 32 (.agg #[.int .i64 0, .int .i64 1]) (.int .i64 0)).run Tryf.prog w = .ok (.int .i64 0) w := by kernel_rfl
theorem i1 (w : World) : (Instr.index 32 (.agg #[.int .i64 0, .int .i64 1]) (.int .i64 1)).run Tryf.prog w = .ok (.int .i64 1) w := by kernel_rfl

set_option maxHeartbeats 400000 in
/-- The text is "no match". -/
theorem um_no (tv : Value) (N : Nat) (x : Value) (w : World) (hp : w.cell? ⟨N, 0, none⟩ = some x) (hz : w.frozen? ⟨N, 0, none⟩ = false) (hcv : ∀ k, (convert 22 9 tv).run Tryf.prog (w.drewN k) = .ok (.string noS) (w.drewN k)) :
    Calls Tryf.prog 7 #[.pointer (some ⟨N, 0, none⟩), tv] w fun e w' => e = .returned .nilIface ∧ ∃ n, w' = (w.drewN n).setCell ⟨N, 0, none⟩ (.int .i64 0) := by
  go_enter Tryf.func7, Tryf.ntmps7
  go_wp2
  go_loopw [8] (fun i wr => i = .int .i64 0 ∧ wr = w) (fun _ _ => 0)
  case atStart => exact ⟨rfl, rfl⟩
  case round =>
    obtain ⟨rfl, rfl⟩ := hrel
    have hi := i0
    go_wp2
    go_quiet ((go_at_call 6; exact Calls.quiet_of_same (string0 _)))
    go_wp2
    go_ret
    exact ⟨rfl, _, rfl⟩

theorem cell_drewN (w : World) (n : Nat) (a : Addr) : (w.drewN n).cell? a = w.cell? a := by simp
theorem frozen_drewN (w : World) (n : Nat) (a : Addr) : (w.drewN n).frozen? a = w.frozen? a := rfl

set_option maxHeartbeats 400000 in
/-- The text is "match". -/
theorem um_yes (tv : Value) (N : Nat) (x : Value) (w : World) (hp : w.cell? ⟨N, 0, none⟩ = some x) (hz : w.frozen? ⟨N, 0, none⟩ = false) (hcv : ∀ k, (convert 22 9 tv).run Tryf.prog (w.drewN k) = .ok (.string yesS) (w.drewN k)) :
    Calls Tryf.prog 7 #[.pointer (some ⟨N, 0, none⟩), tv] w fun e w' => e = .returned .nilIface ∧ ∃ n, w' = (w.drewN n).setCell ⟨N, 0, none⟩ (.int .i64 1) := by
  go_enter Tryf.func7, Tryf.ntmps7
  go_wp2
  go_loopw [8] (fun i wr => ∃ k n : Nat, k ≤ 1 ∧ i = .int .i64 k ∧ wr = w.drewN n) (fun i _ => 1 - (intOf i).toNat)
  case atStart => exact ⟨0, 0, by omega, rfl, rfl⟩
  case round =>
    obtain ⟨k, n, hk, rfl, hwr⟩ := hrel
    have HW : Hid (wr = w.drewN n) := hwr
    have hq : ∀ k, (convert 22 9 tv).run Tryf.prog (wr.drewN k) = .ok (.string yesS) (wr.drewN k) := fun k => by rw [hwr, World.drewN_drewN]; exact hcv (n + k)
    have hpq : wr.cell? ⟨N, 0, none⟩ = some x := by rw [hwr, cell_drewN]; exact hp
    have hzq : wr.frozen? ⟨N, 0, none⟩ = false := by rw [hwr, frozen_drewN]; exact hz
    clear hwr hcv
    have hk' : k = 0 ∨ k = 1 := by omega
    rcases hk' with rfl | rfl
    · have hi := i0
      have hne : (yesS.toList == noS.toList) = false := by kernel_rfl
      go_wp2
      go_quiet ((go_at_call 6; exact Calls.quiet_of_same (string0 _)))
      go_wp2
      go_roundw
      case rel => exact ⟨1, n + nq, by omega, by go_num, by rw [HW.out, World.drewN_drewN]⟩
      case measure => simp [intOf]
    · have hi := i1
      go_wp2
      go_quiet ((go_at_call 6; exact Calls.quiet_of_same (string1 _)))
      go_wp2
      go_ret
      exact ⟨rfl, n + nq, by rw [HW.out, World.drewN_drewN]⟩

set_option maxHeartbeats 400000 in
/-- The text is another. -/
theorem um_other (F : Interp) (tv : Value) (N : Nat) (w : World) (hF : F.answers w.tape) (l : List UInt8) (hR : Rv w tv (byteCells l)) (s : ByteArray) (hs : s = ⟨l.toArray⟩) (h0 : (s.toList == noS.toList) = false) (h1 : (s.toList == yesS.toList) = false) :
    Calls Tryf.prog 7 #[.pointer (some ⟨N, 0, none⟩), tv] w fun e w' => (∃ a, e = .returned (.iface 37 (.pointer (some a)))) ∧ Below w.heap.size w w' := by
  have hcv : ∀ k, (convert 22 9 tv).run Tryf.prog (w.drewN k) = .ok (.string s) (w.drewN k) := fun k => by rw [hs]; exact conv_of _ _ _ (hR.later (below_drewN (Below.refl _ _) k))
  have HR : Hid (Rv w tv (byteCells l)) := hR
  have HF : Hid (F.answers w.tape) := hF
  clear hR hs hF
  go_enter Tryf.func7, Tryf.ntmps7
  go_wp2
  go_loopw [8] (fun i wr => ∃ k n : Nat, k ≤ 2 ∧ i = .int .i64 k ∧ wr = w.drewN n) (fun i _ => 2 - (intOf i).toNat)
  case atStart => exact ⟨0, 0, by omega, rfl, rfl⟩
  case round =>
    obtain ⟨k, n, hk, rfl, hwr⟩ := hrel
    have HW : Hid (wr = w.drewN n) := hwr
    have hq : ∀ k, (convert 22 9 tv).run Tryf.prog (wr.drewN k) = .ok (.string s) (wr.drewN k) := fun k => by rw [hwr, World.drewN_drewN]; exact hcv (n + k)
    have HB : Hid (Below w.heap.size w wr) := by rw [hwr]; exact below_drewN (Below.refl _ _) n
    clear hwr hcv
    have hk' : k = 0 ∨ k = 1 ∨ k = 2 := by omega
    rcases hk' with rfl | rfl | rfl
    · have hi := i0
      go_wp2
      go_quiet ((go_at_call 6; exact Calls.quiet_of_same (string0 _)))
      go_wp2
      go_roundw
      case rel => exact ⟨1, n + nq, by omega, by go_num, by rw [HW.out, World.drewN_drewN]⟩
      case measure => simp [intOf]
    · have hi := i1
      go_wp2
      go_quiet ((go_at_call 6; exact Calls.quiet_of_same (string1 _)))
      go_wp2
      go_roundw
      case rel => exact ⟨2, n + nq, by omega, by go_num, by rw [HW.out, World.drewN_drewN]⟩
      case measure => simp [intOf]
    · have hc0 : (wr.alloc (.cells #[.iface 22 tv, .iface 24 (.int .i64 1), .iface 24 (.int .i64 0)] 20)).cell? ⟨wr.heap.size, 0, none⟩ = some (.iface 22 tv) := by simp
      have hc1 : (wr.alloc (.cells #[.iface 22 tv, .iface 24 (.int .i64 1), .iface 24 (.int .i64 0)] 20)).cell? ⟨wr.heap.size, 1, none⟩ = some (.iface 24 (.int .i64 1)) := by simp
      have hc2 : (wr.alloc (.cells #[.iface 22 tv, .iface 24 (.int .i64 1), .iface 24 (.int .i64 0)] 20)).cell? ⟨wr.heap.size, 2, none⟩ = some (.iface 24 (.int .i64 0)) := by simp
      have HB2 : Hid (Below w.heap.size w (wr.alloc (.cells #[.iface 22 tv, .iface 24 (.int .i64 1), .iface 24 (.int .i64 0)] 20))) := HB.out.alloc HB.out.size _
      obtain ⟨sh, vl, hop⟩ := op_of _ _ _ (HR.out.later HB2.out)
      have HC := errorf_c F tv wr.heap.size sh vl _ (by rw [HB2.out.tape]; exact HF.out) hc0 hc1 hc2 hop
      have HC' : Hid _ := HC
      clear HC hc0 hc1 hc2 hop
      go_wp2_with fail
      refine Calls.mono HC'.out ?_
      rintro e w3 ⟨⟨a, rfl⟩, hb3⟩
      have HB3 : Hid (Below w.heap.size w w3) := HB2.out.trans (hb3.mono HB2.out.size)
      clear hb3 HC'
      go_wp2
      go_ret
      exact ⟨⟨_, rfl⟩, HB3.out⟩

/-- Either known text, by one contract. -/
theorem um_known (tv : Value) (N : Nat) (x : Value) (w : World) (hp : w.cell? ⟨N, 0, none⟩ = some x) (hz : w.frozen? ⟨N, 0, none⟩ = false) (l : List UInt8) (hR : Rv w tv (byteCells l)) (v : Int)
    (h : (l = noS.data.toList ∧ v = 0) ∨ (l = yesS.data.toList ∧ v = 1)) :
    Calls Tryf.prog 7 #[.pointer (some ⟨N, 0, none⟩), tv] w fun e w' => e = .returned .nilIface ∧ w'.cell? ⟨N, 0, none⟩ = some (.int .i64 v) ∧ Below N w w' := by
  have hcv := fun k => conv_of _ _ _ (hR.later (below_drewN (Below.refl _ w) k))
  rcases h with ⟨rfl, rfl⟩ | ⟨rfl, rfl⟩
  · refine (um_no tv N x w hp hz hcv).mono ?_
    rintro e w' ⟨rfl, n, rfl⟩
    exact ⟨rfl, World.cell?_setCell_same _ _ _ (u := x) (by rw [cell_drewN]; exact hp), (below_drewN (Below.refl N w) n).setCell (p := ⟨N, 0, none⟩) (Nat.le_refl N) _⟩
  · refine (um_yes tv N x w hp hz hcv).mono ?_
    rintro e w' ⟨rfl, n, rfl⟩
    exact ⟨rfl, World.cell?_setCell_same _ _ _ (u := x) (by rw [cell_drewN]; exact hp), (below_drewN (Below.refl N w) n).setCell (p := ⟨N, 0, none⟩) (Nat.le_refl N) _⟩

end Go.Proofs.Qxb6630830aFmt
