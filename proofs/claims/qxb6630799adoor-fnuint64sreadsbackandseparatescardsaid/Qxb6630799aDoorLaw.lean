/-
  DERIVED. THE WALK OF FnUint64sReadsBackAndSeparates.
-/
import Derived.Test.Qxb6630799aDoorSplit
import Derived.Test.Qxb6630799aDoorBack
import Derived.Test.Qxb6630799aDoorEq2
namespace Go.Proofs.Qxb6630799aDoor
open Go.RowKit
open Go.Lib (byteCells byteCells_length decDigits)

theorem bytes10 (a0 a1 a2 : Option Addr) (l0 c0 l1 c1 l2 c2 : Nat) (w : World) (h0 : l0 ≤ maxLen) (h1 : l1 ≤ maxLen) (h2 : l2 ≤ maxLen) :
    Calls Tryd.prog 10 #[.slice a0 l0 c0, .slice a1 l1 c1, .slice a2 l2 c2] w fun e w' => ∃ b, e = .returned (.bool b) ∧ w = w' := by
  unfold maxLen at h0 h1 h2
  go_enter Tryd.func10, Tryd.ntmps10
  go_wp2
  all_goals
    go_ret
    exact ⟨_, rfl, rfl⟩

set_option maxRecDepth 20000 in
set_option maxHeartbeats 1000000 in
theorem back_law (v0 v1 v2 : Value) (lb : List UInt8) (la lc : List Nat) (w : World) (h0 : lb.length ≤ maxLen) (h1 : la.length ≤ maxLen) (h2 : lc.length ≤ maxLen) (r0 : Rv w v0 (byteCells lb)) (r1 : Rv w v1 (usCells la)) (r2 : Rv w v2 (usCells lc))
    (hu1 : ∀ x ∈ la, x < 18446744073709551616) (hu2 : ∀ x ∈ lc, x < 18446744073709551616) (htab : Tab w.heap.size w) :
    Calls Tryd.prog 4 #[v0, v1, v2] w fun e w' => e = .returned (.bool true) ∧ Below w.heap.size w w' := by
  have R0 : Hid (Rv w v0 (byteCells lb)) := r0
  have R1 : Hid (Rv w v1 (usCells la)) := r1
  have R2 : Hid (Rv w v2 (usCells lc)) := r2
  have HU1 : Hid (∀ x ∈ la, x < 18446744073709551616) := hu1
  have HU2 : Hid (∀ x ∈ lc, x < 18446744073709551616) := hu2
  have HT : Hid (Tab w.heap.size w) := htab
  obtain ⟨a0, c0, rfl, -, -, -⟩ := r0
  obtain ⟨a1, c1, rfl, -, -, -⟩ := r1
  obtain ⟨a2, c2, rfl, -, -, -⟩ := r2
  rw [len_bytes] at R0 ⊢
  rw [len_us] at R1 R2 ⊢
  rw [len_us]
  clear hu1 hu2 htab
  go_enter Tryd.func4, Tryd.ntmps4
  go_wp2_with fail
  refine (bytes10 _ _ _ _ _ _ _ _ _ _ h0 h1 h2).mono ?_
  rintro e w' ⟨b, rfl, rfl⟩
  unfold maxLen at h0 h1 h2
  cases b
  · go_wp2_with fail
    go_ret
    exact ⟨rfl, Below.refl _ _⟩
  by_cases hA : (lb.length : Int) ≤ 1048576 ∧ (la.length : Int) ≤ 131072 ∧ (lc.length : Int) ≤ 131072 ∧ (lb.length : Int) + 8 * (la.length : Int) + 8 * (lc.length : Int) ≤ 1048576
  case neg =>
    go_wp2_with fail
    all_goals
      go_ret
      exact ⟨rfl, Below.refl _ _⟩
  obtain ⟨hA1, hA2, hA3, hA4⟩ := hA
  clear h0 h1 h2
  have hnn := fun (w : World) (a : Option Addr) (n c : Nat) => run_neq_slice_nil_any (P := Tryd.prog) w 23 29 a n c 0 0 Tryd.underlying23
  go_upto_if 39 with fail
  go_cut [1] (fun av wc => Hid (Rv wc av (usCells la)) ∧ Hid (Below w.heap.size w wc))
  case first =>
    cases a1 with
    | none =>
      go_wp2_with fail
      go_meet
      case rel => exact ⟨R1, Below.refl _ _⟩
    | some x =>
      have hmk := fun w => make_us w la.length (by omega)
      have HSrc : Hid (∀ o, 0 < (usCells la).length → ∃ ad, some x = some ad ∧ ∀ j v, (usCells la)[j]? = some v → (w.alloc o).cell? (ad.add j) = some v) := fun o => rv_src R1.out o
      have HG0 : Hid ((w.alloc (.cells (madeCells #[.int .u64 0] la.length) 29)).heap[w.heap.size]? = some (.cells (madeCells #[.int .u64 0] la.length).toList.toArray 29 (0, 0))) := by
        show (w.alloc (.cells (madeCells #[.int .u64 0] la.length) 29)).heap[w.heap.size]? = _
        rw [heap_alloc_new, Array.toArray_toList]
      go_wp2_with (first | (refine wpList_copy_splice rfl _ _ 23 23 rfl 29 Tryd.underlying23 (by kernel_rfl) _ _ _ _ _ _ rfl rfl w.heap.size 0 (madeCells #[.int .u64 0] la.length).toList 29 HG0.out (usCells la) ?c1 ?c2 ?c3 (us_one la) w.heap.size w ((Below.refl _ _).alloc (Nat.le_refl _) _) (Nat.le_refl _) ?_))
      case c1 => rw [len_us]; exact (Nat.min_self _).symm
      case c2 =>
        intro h
        obtain ⟨ad, e, hc⟩ := HSrc.out _ h
        cases e
        exact hc
      case c3 => rw [len_us]; simp [size_madeCells]
      intro w2 hg2 hb2
      have HR2 : Hid (Rv w2 (.slice (some ⟨w.heap.size, 0, none⟩) la.length la.length) (usCells la)) := rv_row w2 w.heap.size la.length la rfl _ (by simp [size_madeCells]) hg2.out
      have HB2 : Hid (Below w.heap.size w w2) := hb2
      clear hg2 hb2
      go_wp2_with fail
      go_meet
      case rel => exact ⟨HR2, HB2⟩
  case rest =>
    obtain ⟨hRa, hBa⟩ := hcut
    have R2' : Hid (Rv wc (.slice a2 lc.length c2) (usCells lc)) := R2.out.later hBa.out
    go_upto_if 48 with fail
    go_cut [2] (fun cv wd => Hid (Rv wd u1 (usCells la)) ∧ Hid (Rv wd cv (usCells lc)) ∧ Hid (Below w.heap.size w wd))
    case first =>
      cases a2 with
      | none =>
        go_wp2_with fail
        go_meet
        case rel => exact ⟨hRa, R2', hBa⟩
      | some x =>
        have hmk := fun w => make_us w lc.length (by omega)
        have HSrc : Hid (∀ o, 0 < (usCells lc).length → ∃ ad, some x = some ad ∧ ∀ j v, (usCells lc)[j]? = some v → (wc.alloc o).cell? (ad.add j) = some v) := fun o => rv_src R2'.out o
        have HG0 : Hid ((wc.alloc (.cells (madeCells #[.int .u64 0] lc.length) 29)).heap[wc.heap.size]? = some (.cells (madeCells #[.int .u64 0] lc.length).toList.toArray 29 (0, 0))) := by
          show (wc.alloc (.cells (madeCells #[.int .u64 0] lc.length) 29)).heap[wc.heap.size]? = _
          rw [heap_alloc_new, Array.toArray_toList]
        go_wp2_with (first | (refine wpList_copy_splice rfl _ _ 23 23 rfl 29 Tryd.underlying23 (by kernel_rfl) _ _ _ _ _ _ rfl rfl wc.heap.size 0 (madeCells #[.int .u64 0] lc.length).toList 29 HG0.out (usCells lc) ?c1 ?c2 ?c3 (us_one lc) wc.heap.size wc ((Below.refl _ _).alloc (Nat.le_refl _) _) (Nat.le_refl _) ?_))
        case c1 => rw [len_us]; exact (Nat.min_self _).symm
        case c2 =>
          intro h
          obtain ⟨ad, e, hc⟩ := HSrc.out _ h
          cases e
          exact hc
        case c3 => rw [len_us]; simp [size_madeCells]
        intro w2 hg2 hb2
        have HR2 : Hid (Rv w2 (.slice (some ⟨wc.heap.size, 0, none⟩) lc.length lc.length) (usCells lc)) := rv_row w2 wc.heap.size lc.length lc rfl _ (by simp [size_madeCells]) hg2.out
        have HB2 : Hid (Below wc.heap.size wc w2) := hb2
        clear hg2 hb2
        go_wp2_with fail
        go_meet
        case rel => exact ⟨hRa.out.later HB2.out, HR2, hBa.out.trans (HB2.out.mono hBa.out.size)⟩
    case rest =>
      clear hRa hBa R2'
      obtain ⟨hRa, hRc, hBd⟩ := hcut
      obtain ⟨qa, hqa⟩ : ∃ q, (jenc la).length = q := ⟨_, rfl⟩
      have hqa2 : (qa : Int) ≤ 21000000 := by have := jbody_length la HU1.out; rw [jenc_length] at hqa; omega
      have HQA : Hid ((jenc la).length = qa) := hqa
      have HLA : Hid ((jenc la).length ≤ 100000000) := by show (jenc la).length ≤ 100000000; omega
      have HLC : Hid ((jenc lc).length ≤ 100000000) := by show (jenc lc).length ≤ 100000000; have := jbody_length lc HU2.out; rw [jenc_length]; omega
      clear hqa
      go_wp2_with fail
      refine (clone _ lb _ (by omega) (R0.out.later hBd.out)).mono ?_
      rintro e w2 ⟨bc, rfl, ho2, hb2⟩
      have HO2 : Hid (w2.ownsRow wc.heap.size 5 1 bc lb.length (byteCells lb)) := ho2
      have HB2 : Hid (Below wc.heap.size wc w2) := hb2
      have HW2 : Hid (Below w.heap.size w w2) := hBd.out.trans (hb2.mono hBd.out.size)
      clear ho2 hb2
      go_wp2_with fail
      refine (uint64s wc.heap.size bc u1 lb.length (byteCells lb) la w2 HO2.out HB2.out.size (fun w' h' => hRa.out.later (HB2.out.trans h')) (HT.out.at HW2.out hBd.out.size) HU1.out (by omega) (by omega)).mono ?_
      rintro e w3 ⟨outA, rfl, ho3, hb3⟩
      rw [← bytes_app] at ho3
      have HR3 : Hid (Rv w3 outA (byteCells (lb ++ jenc la))) := Rv.of_own ho3
      have HB3 : Hid (Below wc.heap.size wc w3) := HB2.out.trans hb3
      have HW3 : Hid (Below w.heap.size w w3) := hBd.out.trans (HB3.out.mono hBd.out.size)
      have HA3 : Hid (Rv w3 u1 (usCells la)) := hRa.out.later HB3.out
      have HI3 : Hid (Rv w3 u2 (usCells lc)) := hRc.out.later HB3.out
      clear ho3 hb3 HO2 HB2 HW2 HB3 hRa hRc
      go_wp2_with fail
      refine (uint64s w3.heap.size (.slice none 0 0) u2 0 [] lc w3 (World.ownsRow_nil _ _ _ _) (Nat.le_refl _) (fun w' h' => HI3.out.later h') (HT.out.at HW3.out HW3.out.size) HU2.out (Nat.zero_le _) (by omega)).mono ?_
      rintro e w4 ⟨outC, rfl, ho4, hb4⟩
      have HC4 : Hid (Rv w4 outC (byteCells (jenc lc))) := Rv.of_own ho4
      have HR4 : Hid (Rv w4 outA (byteCells (lb ++ jenc la))) := HR3.out.later hb4
      have HW4 : Hid (Below w.heap.size w w4) := HW3.out.trans (hb4.mono HW3.out.size)
      have HA4 : Hid (Rv w4 u1 (usCells la)) := HA3.out.later hb4
      have HI4 : Hid (Rv w4 u2 (usCells lc)) := HI3.out.later hb4
      clear ho4 hb4 HR3 HW3 HA3 HI3
      have hlA : ∀ w, (Builtin.len_ #[22] 3 #[outA]).run Tryd.prog w = .ok (.int .i64 ((lb.length : Int) + (qa : Int))) w := fun w => by
        rw [rule_len 22 und22 HR4.out w, len_bytes, List.length_append, HQA.out]
        rfl
      obtain ⟨y1, hs1, hy1⟩ := rule_to 22 und22 size22 HR4.out lb.length (by rw [len_bytes, List.length_append]; omega)
      obtain ⟨y2, hs2, hy2⟩ := rule_from 22 und22 size22 HR4.out lb.length (by rw [len_bytes, List.length_append]; omega)
      rw [by_take, List.take_left] at hy1
      rw [by_drop, List.drop_left] at hy2
      have HY1 : Hid (Rv w4 y1 (byteCells lb)) := hy1 _ HR4.out
      have HY2 : Hid (∀ w', Rv w' outA (byteCells (lb ++ jenc la)) → Rv w' y2 (byteCells (jenc la))) := hy2
      have HB0 : Hid (Rv w4 (.slice a0 lb.length c0) (byteCells lb)) := R0.out.later HW4.out
      clear hy1 hy2
      go_wp2_with fail
      refine (eqB_true _ _ lb _ (by omega) HY1.out HB0.out).mono ?_
      rintro e w5 ⟨rfl, n5, hw5⟩
      have hb5 : Below w4.heap.size w4 w5 := by rw [hw5]; exact below_drewN (Below.refl _ _) n5
      have HW5 : Hid (Below w.heap.size w w5) := HW4.out.trans (hb5.mono HW4.out.size)
      have HA5 : Hid (Rv w5 u1 (usCells la)) := HA4.out.later hb5
      have HI5 : Hid (Rv w5 u2 (usCells lc)) := HI4.out.later hb5
      have HC5 : Hid (Rv w5 outC (byteCells (jenc lc))) := HC4.out.later hb5
      have HT5 : Hid (Rv w5 y2 (byteCells (jenc la))) := HY2.out _ (HR4.out.later hb5)
      clear hw5 hb5 HW4 HA4 HI4 HC4 HR4 HY1 HY2 HB0
      go_wp2_with fail
      refine (back_any _ _ la _ (by omega) HU1.out HT5.out HA5.out).mono ?_
      rintro e w5' ⟨rfl, hw5'⟩
      replace hw5' := hw5'.symm
      subst hw5'
      go_wp2_with fail
      refine (back_any _ _ lc _ (by omega) HU2.out HC5.out HI5.out).mono ?_
      rintro e w5'' ⟨rfl, hw5''⟩
      replace hw5'' := hw5''.symm
      subst hw5''
      by_cases hac : la = lc
      · have HBA : Hid (byteCells (jenc la) = byteCells (jenc lc)) := by rw [hac]; rfl
        have HY2' : Hid (Rv w5 y2 (byteCells (jenc lc))) := by rw [← hac]; exact HT5
        have HA5' : Hid (Rv w5 u1 (usCells lc)) := by rw [← hac]; exact HA5
        clear hac
        go_wp2_with fail
        refine (eqB_true _ _ (jenc lc) _ HLC.out HY2'.out HC5.out).mono ?_
        rintro e w6 ⟨rfl, n6, hw6⟩
        have HB6 : Hid (Below w5.heap.size w5 w6) := by rw [hw6]; exact below_drewN (Below.refl _ _) n6
        clear hw6
        go_wp2_with fail
        refine (eqU_true _ _ lc _ (by omega) (HA5'.out.later HB6.out) (HI5.out.later HB6.out)).mono ?_
        rintro e w7 ⟨rfl, n7, hw7⟩
        have HB7 : Hid (Below w5.heap.size w5 w7) := by rw [hw7]; exact below_drewN HB6.out n7
        clear hw7
        go_wp2_with fail
        go_ret
        exact ⟨rfl, HW5.out.trans (HB7.out.mono HW5.out.size)⟩
      · have hne : jenc la ≠ jenc lc := fun e => hac (jenc_inj e)
        go_wp2_with fail
        refine (eqB_false _ _ (jenc la) (jenc lc) _ HLA.out hne HT5.out HC5.out).mono ?_
        rintro e w6 ⟨rfl, n6, hw6⟩
        have HB6 : Hid (Below w5.heap.size w5 w6) := by rw [hw6]; exact below_drewN (Below.refl _ _) n6
        clear hw6
        go_wp2_with fail
        refine (eqU_false _ _ la lc _ (by omega) hac (HA5.out.later HB6.out) (HI5.out.later HB6.out)).mono ?_
        rintro e w7 ⟨rfl, n7, hw7⟩
        have HB7 : Hid (Below w5.heap.size w5 w7) := by rw [hw7]; exact below_drewN HB6.out n7
        clear hw7
        go_wp2_with fail
        go_ret
        exact ⟨rfl, HW5.out.trans (HB7.out.mono HW5.out.size)⟩

end Go.Proofs.Qxb6630799aDoor
