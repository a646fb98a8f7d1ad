/-
  DERIVED. THE WALKS OF strconv.AppendUint AND jsonenc.Uint64s.
-/
import Derived.Test.Qxb6630799aDoorEq
import Derived.OwnWalk
namespace Go.Proofs.Qxb6630799aDoor
open Go.RowKit
open Go.Lib (byteCells byteCells_length decDigits)

def usCells (l : List Nat) : List Value := l.map fun (n : Nat) => Value.int .u64 (n : Int)
theorem len_us (l : List Nat) : (usCells l).length = l.length := by simp [usCells]
theorem usCells_at (l : List Nat) (j : Nat) (h : j < l.length) : (usCells l)[j]? = some (.int .u64 (l[j] : Int)) := by simp [usCells, h]

/-- The table of powers, here and whatever is done from B on. -/
def Tab (B : Nat) (w : World) : Prop := Lib.TabBelow Tryd.prog B w Tryd.powName .u64 Lib.pow10Tab

theorem append_uint (B n u : Nat) (hu64 : u < 18446744073709551616) (sv : Value) (xs : List Value) (w : World) (hown : w.ownsRow B 5 1 sv n xs) (hBw : B ≤ w.heap.size) (hlim : n + 20 ≤ 140737488355328) (htab : Tab B w) :
    Calls Tryd.prog 13 #[sv, .int .u64 u, .int .i64 10] w fun e w' => ∃ v', e = .returned v' ∧ w'.ownsRow B 5 1 v' (n + (decDigits u).length) (xs ++ byteCells (decDigits u)) ∧ Below B w w' := by
  have hT := htab.here
  have HT : Hid (Lib.TabIs Tryd.prog w Tryd.powName .u64 Lib.pow10Tab) := hT
  have HL : Hid (u < 18446744073709551616) := hu64
  have HM : Hid (n + 20 ≤ 140737488355328) := hlim
  have HO : Hid (w.ownsRow B 5 1 sv n xs) := hown
  clear hT htab hu64 hlim hown
  go_enter Tryd.func13, Tryd.ntmps13
  go_wp2_with fail
  refine (Tryd.internal_strconv_AppendUint_10 B n u HL.out sv xs w HO.out hBw HM.out HT.out).mono ?_
  rintro e w' ⟨v', rfl, ho, hb, _⟩
  go_wp2_with fail
  go_ret
  exact ⟨_, rfl, ho, hb⟩

theorem jb_take (ids : List Nat) (k : Nat) (h : k < ids.length) : jbody (ids.take (k + 1)) = jbody (ids.take k) ++ ((if k = 0 then [] else [44]) ++ decDigits ids[k]) := by
  rw [List.take_succ_eq_append_getElem h, jbody_snoc]
  have e : (ids.take k).isEmpty = decide (k = 0) := by
    rw [Bool.eq_iff_iff]
    simp only [List.isEmpty_iff, List.take_eq_nil_iff, decide_eq_true_eq]
    constructor
    · rintro (h | h)
      · exact h
      · subst h; simp at h
    · exact Or.inl
  rw [e]
  by_cases h0 : k = 0 <;> simp [h0]

theorem bytes_app (a b : List UInt8) : byteCells (a ++ b) = byteCells a ++ byteCells b := by simp [byteCells]

/-- One byte appended, for the walk's side goals. -/
theorem one_news (w : World) (x : Value) (t : TypeId) : ∀ j u, [x][j]? = some u → (w.alloc (.cells #[x] t)).cell? ((⟨w.heap.size, 0, none⟩ : Addr).add j) = some u := by
  intro j u hj
  match j, hj with
  | 0, hj => simp at hj; subst hj; simp [Addr.add]

set_option maxHeartbeats 1000000 in
set_option maxRecDepth 100000 in
/-- jsonenc.Uint64s: what comes back owns the prefix and, behind it, the JSON array. -/
theorem uint64s (B : Nat) (sv iv : Value) (n : Nat) (xs : List Value) (ids : List Nat) (w : World) (hown : w.ownsRow B 5 1 sv n xs) (hB : B ≤ w.heap.size)
    (hid : ∀ w', Below B w w' → Rv w' iv (usCells ids)) (htab : Tab B w) (hu : ∀ x ∈ ids, x < 18446744073709551616) (hn : n ≤ 100000000) (hl : ids.length ≤ 1000000) :
    Calls Tryd.prog 7 #[sv, iv] w fun e w' => ∃ v', e = .returned v' ∧ w'.ownsRow B 5 1 v' (n + (jenc ids).length) (xs ++ byteCells (jenc ids)) ∧ Below B w w' := by
  obtain ⟨a, cap, rfl, hcap, hnil, -⟩ := hid w (Below.refl _ _)
  rw [len_us] at hcap hid ⊢
  have HI : Hid (∀ w', Below B w w' → Rv w' (.slice a ids.length cap) (usCells ids)) := hid
  have HT : Hid (Tab B w) := htab
  have HU : Hid (∀ x ∈ ids, x < 18446744073709551616) := hu
  clear hid htab hu hcap hnil
  go_enter Tryd.func7, Tryd.ntmps7
  go_wp2_with (first | (at_builtin; refine wpList_append_own _ rfl _ _ 22 rfl B 5 Tryd.t5 (.int .u8 0) 1 1 Tryd.underlying22 info5 rfl rfl rfl rfl (by decide) _ _ _ rfl (hown.alloc _) ⟨w.heap.size, 0, none⟩ 1 1 [.int .u8 91] rfl rfl ?c1 ?c2 ?c3 ?c4 ?c5 ?_))
  case c1 => exact one_news w _ _
  case c2 => intro u hu; simp at hu; subst hu; rfl
  case c3 => unfold maxLen; omega
  case c4 => omega
  case c5 => simp; omega
  intro v1 w1 hown1 hgrow1 _
  have hb1 : Below B w w1 := ((Below.refl B w).alloc hB _).grown hgrow1 (by simp; omega) (fun k hk => (hown.lt k hk).1)
  have HO1 : Hid (w1.ownsRow B 5 1 v1 (n + 1 + (jbody (ids.take 0)).length) (xs ++ byteCells (91 :: jbody (ids.take 0)))) := hown1
  have HB1 : Hid (Below B w w1) := hb1
  clear hown hown1 hgrow1 hb1
  go_wp2_with fail
  go_loopw [0, 12] (fun b i wr => ∃ (k : Nat), k ≤ ids.length ∧ i = .int .i64 k ∧ Hid (wr.ownsRow B 5 1 b (n + 1 + (jbody (ids.take k)).length) (xs ++ byteCells (91 :: jbody (ids.take k)))) ∧ Hid (Below B w wr)) (fun _ i _ => ids.length - (intOf i).toNat)
  case atStart => exact ⟨0, Nat.zero_le _, rfl, HO1, HB1⟩
  case round =>
    obtain ⟨k, hk, rfl, hO, hBr⟩ := hrel
    have hjl := jbody_length (ids.take k) (fun x hx => HU.out x (List.mem_of_mem_take hx))
    have hzr := hBr.out.size
    have hlk : (ids.take k).length ≤ 1000000 := by rw [List.length_take]; omega
    by_cases hlt : k < ids.length
    · obtain ⟨a2, c2, hv2, -, -, hp2⟩ := HI.out wr hBr.out
      rw [len_us] at hv2 hp2
      obtain ⟨rfl, rfl⟩ : a2 = a ∧ c2 = cap := by cases hv2; exact ⟨rfl, rfl⟩
      obtain ⟨b, off, rfl, hcell⟩ := hp2 (by omega)
      have c0 := hcell k _ (usCells_at ids k hlt)
      have hu0 := HU.out ids[k] (List.getElem_mem hlt)
      have HU0 : Hid (ids[k] < 18446744073709551616) := hu0
      have hjt := jb_take ids k hlt
      have HJ : Hid (jbody (ids.take (k + 1)) = jbody (ids.take k) ++ ((if k = 0 then [] else [44]) ++ decDigits ids[k])) := hjt
      clear hcell hp2 hv2 hu0 hjt
      have HT2 : Hid (Tab B wr) := HT.out.on hBr.out
      by_cases h0 : k = 0
      · have hz : ¬ (0 : Int) < (k : Int) := by omega
        have HZ : Hid (k = 0) := h0
        clear h0
        go_wp2_with fail
        refine (append_uint B _ ids[k] HU0.out _ _ wr hO.out (by omega) (by omega) HT2.out).mono ?_
        rintro e w3 ⟨v3, rfl, ho3, hb3⟩
        have HO3 : Hid (w3.ownsRow B 5 1 v3 (n + 1 + (jbody (ids.take (k + 1))).length) (xs ++ byteCells (91 :: jbody (ids.take (k + 1))))) := by
          show w3.ownsRow _ _ _ _ _ _
          rw [HJ.out, if_pos HZ.out, List.nil_append, List.length_append, ← List.cons_append, bytes_app, ← List.append_assoc, ← Nat.add_assoc]
          exact ho3
        have HB3 : Hid (Below B w w3) := hBr.out.trans hb3
        clear ho3 hb3
        go_wp2_with fail
        go_roundw
        case rel => exact ⟨k + 1, by omega, by go_num, HO3, HB3⟩
        case measure => simp [intOf]; omega
      · have hz : (0 : Int) < (k : Int) := by omega
        have HZ : Hid (¬ k = 0) := h0
        clear h0
        go_wp2_with (first | (at_builtin; refine wpList_append_own _ rfl _ _ 22 rfl B 5 Tryd.t5 (.int .u8 0) 1 1 Tryd.underlying22 info5 rfl rfl rfl rfl (by decide) _ _ _ rfl (hO.out.alloc _) ⟨wr.heap.size, 0, none⟩ 1 1 [.int .u8 44] rfl rfl ?c1 ?c2 ?c3 ?c4 ?c5 ?_))
        case c1 => exact one_news wr _ _
        case c2 => intro u hu; simp at hu; subst hu; rfl
        case c3 => unfold maxLen; omega
        case c4 => omega
        case c5 => simp; omega
        intro v2 w2 hown2 hgrow2 _
        have hb2 : Below B wr w2 := ((Below.refl B wr).alloc (by omega) _).grown hgrow2 (by simp; omega) (fun j hj => (hO.out.lt j hj).1)
        have hz2 := hb2.size
        have HO2 : Hid (w2.ownsRow B 5 1 v2 (n + 1 + (jbody (ids.take k)).length + 1) (xs ++ byteCells (91 :: jbody (ids.take k)) ++ [.int .u8 44])) := by show w2.ownsRow _ _ _ _ _ _; rw [List.append_assoc]; exact hown2
        have HB2 : Hid (Below B w w2) := hBr.out.trans hb2
        have HT3 : Hid (Tab B w2) := HT2.out.on hb2
        clear hown2 hgrow2 hb2
        go_wp2_with fail
        refine (append_uint B _ ids[k] HU0.out _ _ w2 HO2.out (by omega) (by omega) HT3.out).mono ?_
        rintro e w3 ⟨v3, rfl, ho3, hb3⟩
        have HO3 : Hid (w3.ownsRow B 5 1 v3 (n + 1 + (jbody (ids.take (k + 1))).length) (xs ++ byteCells (91 :: jbody (ids.take (k + 1))))) := by
          show w3.ownsRow _ _ _ _ _ _
          rw [HJ.out, if_neg HZ.out, ← List.append_assoc, List.length_append, List.length_append, ← List.cons_append, ← List.cons_append, bytes_app, bytes_app, ← List.append_assoc, ← List.append_assoc, ← Nat.add_assoc, ← Nat.add_assoc]
          exact ho3
        have HB3 : Hid (Below B w w3) := HB2.out.trans hb3
        clear ho3 hb3
        go_wp2_with fail
        go_roundw
        case rel => exact ⟨k + 1, by omega, by go_num, HO3, HB3⟩
        case measure => simp [intOf]; omega
    · have HK : Hid (ids.take k = ids) := List.take_of_length_le (by omega)
      go_wp2_with (first | (at_builtin; refine wpList_append_own _ rfl _ _ 22 rfl B 5 Tryd.t5 (.int .u8 0) 1 1 Tryd.underlying22 info5 rfl rfl rfl rfl (by decide) _ _ _ rfl (hO.out.alloc _) ⟨wr.heap.size, 0, none⟩ 1 1 [.int .u8 93] rfl rfl ?c1 ?c2 ?c3 ?c4 ?c5 ?_))
      case c1 => exact one_news wr _ _
      case c2 => intro u hu; simp at hu; subst hu; rfl
      case c3 => unfold maxLen; omega
      case c4 => omega
      case c5 => simp; omega
      intro v2 w2 hown2 hgrow2 _
      have hb2 : Below B wr w2 := ((Below.refl B wr).alloc (by omega) _).grown hgrow2 (by simp; omega) (fun j hj => (hO.out.lt j hj).1)
      have HO2 : Hid (w2.ownsRow B 5 1 v2 (n + (jenc ids).length) (xs ++ byteCells (jenc ids))) := by
        show w2.ownsRow _ _ _ _ _ _
        rw [HK.out] at hown2
        have e1 : n + (jenc ids).length = n + 1 + (jbody ids).length + 1 := by rw [jenc_length]; omega
        have e2 : xs ++ byteCells (jenc ids) = xs ++ byteCells (91 :: jbody ids) ++ [.int .u8 93] := by
          unfold jenc
          rw [← List.cons_append, bytes_app, ← List.append_assoc]
          rfl
        rw [e1, e2, List.append_assoc]
        exact hown2
      have HB2 : Hid (Below B w w2) := hBr.out.trans hb2
      clear hown2 hgrow2 hb2
      go_wp2_with fail
      go_ret
      exact ⟨_, rfl, HO2.out, HB2.out⟩

end Go.Proofs.Qxb6630799aDoor
