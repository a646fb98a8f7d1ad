/-
  DERIVED. THE WALK OF FnUint64sSplitsAtAnyCut.
-/
import Derived.Test.Qxb6630799aDoorCuts
namespace Go.Proofs.Qxb6630799aDoor
open Go.RowKit
open Go.Lib (byteCells byteCells_length decDigits)

theorem bytes5 (a0 a1 : Option Addr) (l0 c0 l1 c1 : Nat) (k : Int) (w : World) (h0 : l0 ≤ maxLen) (h1 : l1 ≤ maxLen) :
    Calls Tryd.prog 5 #[.slice a0 l0 c0, .slice a1 l1 c1, .int .i64 k] w fun e w' => ∃ b, e = .returned (.bool b) ∧ w = w' := by
  unfold maxLen at h0 h1
  go_enter Tryd.func5, Tryd.ntmps5
  go_wp2
  all_goals
    go_ret
    exact ⟨_, rfl, rfl⟩

/-- 'append(v, u...)' onto bytes of the call's own, u not empty. -/
theorem wpList_app {ops : Array Oper} {rest : List Oper} {o : Oper} {a : Act} {Q : Exit → Act → World → Prop} (w : World) (hgd : o.guard = none) (s x : Operand)
    (ho : o.op = .call { callee := .builtin .append, args := #[s, x], argTypes := #[22, 22] }) (B : Nat) (v : Value) (p l q : List UInt8) (hq : q = p ++ l) (hs : a.eval s = v) (hown : w.ownsRow B 5 1 v p.length (byteCells p))
    (u : Value) (hx : a.eval x = u) (hr : Rv w u (byteCells l)) (hl : 0 < l.length) (hB : B ≤ w.heap.size) (hbd : q.length ≤ 100000000)
    (h : ∀ v' w', Hid (w'.ownsRow B 5 1 v' q.length (byteCells q)) → Hid (Below B w w') → wpList Tryd.prog ops Q rest (a.put o.dst v') w') : wpList Tryd.prog ops Q (o :: rest) a w := by
  obtain ⟨ad, cap, rfl, -, -, hp⟩ := hr
  rw [len_bytes] at hx hp
  obtain ⟨b, off, rfl, hc⟩ := hp hl
  have hbd' : p.length + l.length ≤ 100000000 := by rw [hq, List.length_append] at hbd; exact hbd
  refine wpList_append_own w hgd s x 22 ho B 5 Tryd.t5 (.int .u8 0) 1 1 Tryd.underlying22 info5 rfl rfl rfl rfl (by decide) v p.length (byteCells p) hs hown ⟨b, off, none⟩ l.length cap (byteCells l) hx (by rw [len_bytes, Nat.mul_one]) ?_ ?_ (by unfold maxLen; omega) (by omega) hB ?_
  · intro j u hj
    rw [add_plain]
    exact hc j u hj
  · intro u hu
    simp only [byteCells, List.mem_map] at hu
    obtain ⟨y, _, rfl⟩ := hu
    rfl
  · intro v' w' ho' hg' _
    refine h v' w' ?_ ((Below.refl B w).grown hg' hB (fun k hk => (hown.lt k hk).1))
    show World.ownsRow _ _ _ _ _ _ _
    rw [hq, List.length_append, bytes_app]
    exact ho'

theorem own_later {w w' : World} {B e n : Nat} {v : Value} {xs : List Value} (h : w.ownsRow B e 1 v n xs) (hb : Below w.heap.size w w') : w'.ownsRow B e 1 v n xs := by
  obtain ⟨h1, h2⟩ := h
  refine ⟨h1, ?_⟩
  rcases h2 with h2 | ⟨g, cap, cur, hv, hg, hh, r⟩
  · exact Or.inl h2
  · have hlt : g < w.heap.size := (Array.getElem?_eq_some_iff.1 hh).1
    exact Or.inr ⟨g, cap, cur, hv, hg, (hb.block g hlt).trans hh, r⟩

theorem own_lit (w : World) (c : UInt8) : (w.alloc (.cells #[.int .u8 (c.toNat : Int)] 5)).ownsRow w.heap.size 5 1 (.slice (some ⟨w.heap.size, 0, none⟩) 1 1) [c].length (byteCells [c]) := by
  refine ⟨rfl, Or.inr ⟨w.heap.size, 1, _, rfl, Nat.le_refl _, heap_alloc_new _ _, Nat.le_refl _, by unfold maxLen; omega, rfl, rfl⟩⟩

theorem rv_one (w : World) (c : UInt8) : Rv (w.alloc (.cells #[.int .u8 (c.toNat : Int)] 5)) (.slice (some ⟨w.heap.size, 0, none⟩) 1 1) (byteCells [c]) := by
  refine ⟨_, 1, rfl, Nat.le_refl _, (fun h => by cases h), fun _ => ⟨_, _, rfl, fun j u hj => ?_⟩⟩
  match j, hj with
  | 0, hj => simp [byteCells] at hj; subst hj; simp

theorem rv_44 (w : World) : Rv (w.alloc (.cells #[.int .u8 44] 5)) (.slice (some ⟨w.heap.size, 0, none⟩) 1 1) (byteCells [44]) := rv_one w 44
theorem rv_93 (w : World) : Rv (w.alloc (.cells #[.int .u8 93] 5)) (.slice (some ⟨w.heap.size, 0, none⟩) 1 1) (byteCells [93]) := rv_one w 93
theorem own_91 (w : World) : (w.alloc (.cells #[.int .u8 91] 5)).ownsRow w.heap.size 5 1 (.slice (some ⟨w.heap.size, 0, none⟩) 1 1) [(91 : UInt8)].length (byteCells [91]) := own_lit w 91

theorem info29 : Tryd.prog.info? 29 = some Tryd.t29 := by kernel_rfl
theorem make_us (w : World) (n : Nat) (hn : n ≤ 1000000) : (Instr.makeSlice 23 (.int .i64 n) (.int .i64 n)).run Tryd.prog w = .ok (.slice (some ⟨w.heap.size, 0, none⟩) n n) (w.alloc (.cells (madeCells #[.int .u64 0] n) 29)) := by
  have h := run_make (P := Tryd.prog) w 23 29 Tryd.t29 (.int .u64 0) Tryd.underlying23 info29 rfl .i64 .i64 n n (by omega) (by omega) (by show ((8 : Nat) : Int) * _ ≤ _; omega) (by omega)
  have e1 : Tryd.t29.size = 1 := rfl
  have e2 : (Value.int .u64 0).cells = #[.int .u64 0] := rfl
  simpa [e1, e2] using h

theorem rv_row (w : World) (g n : Nat) (ids : List Nat) (hn : ids.length = n) (cur : List Value) (hc : cur.length = n) (hg : w.heap[g]? = some (.cells (splice cur 0 (usCells ids)).toArray 29 (0, 0))) :
    Rv w (.slice (some ⟨g, 0, none⟩) n n) (usCells ids) := by
  have e : splice cur 0 (usCells ids) = usCells ids := by
    unfold splice
    rw [List.take_zero, List.nil_append, Nat.zero_add, len_us, hn, List.drop_of_length_le (by omega), List.append_nil]
  rw [e] at hg
  refine ⟨_, n, by rw [len_us, hn], by rw [len_us]; omega, (fun h => by cases h), fun _ => ⟨g, 0, rfl, fun j u hj => ?_⟩⟩
  rw [cell_of_row w g _ _ _ _ hg]
  simpa using hj

theorem rv_src {w : World} {x : Addr} {n c : Nat} {ids : List Nat} (h : Rv w (.slice (some x) n c) (usCells ids)) (o : Obj) (h0 : 0 < (usCells ids).length) :
    ∃ ad, some x = some ad ∧ ∀ j v, (usCells ids)[j]? = some v → (w.alloc o).cell? (ad.add j) = some v := by
  obtain ⟨a, cap, hv, -, -, hp⟩ := h.later ((Below.refl _ _).alloc (Nat.le_refl _) o)
  obtain ⟨b, off, rfl, hc⟩ := hp h0
  cases hv
  exact ⟨_, rfl, fun j v hj => by rw [add_plain]; exact hc j v hj⟩

theorem us_one (ids : List Nat) : ∀ v ∈ usCells ids, v.oneCell' = true := by
  intro v hv
  simp only [usCells, List.mem_map] at hv
  obtain ⟨y, _, rfl⟩ := hv
  rfl

theorem Tab.at {w w2 : World} {B : Nat} (h : Tab w.heap.size w) (hb : Below w.heap.size w w2) (hB : w.heap.size ≤ B) : Tab B w2 := fun w' h' => h w' (hb.trans (h'.mono hB))

/-- What an array's text offers to len and to an index. -/
theorem arr_rules {w : World} {v : Value} {l : List Nat} (h : Rv w v (byteCells (jenc l))) (p : Nat) (hp : (jbody l).length = p) :
    (∀ w, (Builtin.len_ #[22] 3 #[v]).run Tryd.prog w = .ok (.int .i64 ((p : Int) + 2)) w) ∧
    (∃ b off, (∀ w, (Instr.indexAt 22 v (.int .i64 0)).run Tryd.prog w = .ok (.pointer (some ⟨b, off, none⟩)) w) ∧ ∀ w', Rv w' v (byteCells (jenc l)) → w'.cell? ⟨b, off, none⟩ = some (.int .u8 91)) ∧
    (∃ b off, (∀ w, (Instr.indexAt 22 v (.int .i64 ((p : Int) + 2 - 1))).run Tryd.prog w = .ok (.pointer (some ⟨b, off, none⟩)) w) ∧ ∀ w', Rv w' v (byteCells (jenc l)) → w'.cell? ⟨b, off, none⟩ = some (.int .u8 93)) := by
  have hlen : (byteCells (jenc l)).length = p + 2 := by rw [len_bytes, jenc_length, hp]
  refine ⟨fun w => ?_, ?_, ?_⟩
  · rw [rule_len 22 und22 h w, hlen]
    rfl
  · obtain ⟨b, off, h1, h2⟩ := rule_at 22 und22 size22 h 0 (by omega)
    exact ⟨b, off, h1, fun w' hr => by rw [h2 w' hr]; rfl⟩
  · obtain ⟨b, off, h1, h2⟩ := rule_at 22 und22 size22 h (p + 1) (by omega)
    refine ⟨b, off, fun w => ?_, fun w' hr => ?_⟩
    · rw [show ((p : Int) + 2 - 1) = ((p + 1 : Nat) : Int) by omega]
      exact h1 w
    · rw [h2 w' hr, byteCells_at _ _ (by rw [jenc_length, hp]; omega)]
      have e : (jenc l)[p + 1]'(by rw [jenc_length, hp]; omega) = 93 := by
        unfold jenc
        rw [List.getElem_cons_succ, List.getElem_append_right (by omega)]
        simp [hp]
      rw [e]
      rfl

theorem jenc_head (l : List Nat) (p : Nat) (hp : (jbody l).length = p) : (jenc l).take (p + 1) = 91 :: jbody l := by
  unfold jenc
  rw [List.take_succ_cons, List.take_append_of_le_length (by omega), List.take_of_length_le (by omega)]
theorem jenc_tail (l : List Nat) : (jenc l).drop 1 = jbody l ++ [93] := rfl

theorem all_text (lb : List UInt8) (ids : List Nat) (n : Nat) :
    lb ++ jenc ids = lb ++ (91 :: jbody (ids.take n)) ++ jsep (ids.take n) (ids.drop n) ++ (jbody (ids.drop n) ++ [93]) := by
  have e : jenc ids = jenc (ids.take n ++ ids.drop n) := by rw [List.take_append_drop]
  rw [e, jenc_append]
  simp only [List.append_assoc]

theorem jsep_nil (ids : List Nat) (n : Nat) (h : n = 0 ∨ ids.length ≤ n) : jsep (ids.take n) (ids.drop n) = [] := by
  unfold jsep
  rcases h with rfl | h
  · simp
  · rw [List.drop_of_length_le h]; simp
theorem jsep_one (ids : List Nat) (n : Nat) (h0 : 0 < n) (h : n < ids.length) : jsep (ids.take n) (ids.drop n) = [44] := by
  unfold jsep
  rw [if_neg]
  simp only [Bool.or_eq_true, List.isEmpty_iff, List.take_eq_nil_iff, List.drop_eq_nil_iff, not_or]
  refine ⟨⟨by omega, ?_⟩, by omega⟩
  rintro rfl
  simp at h

set_option maxRecDepth 20000 in
set_option maxHeartbeats 1000000 in
theorem split_any (v0 v1 : Value) (lb : List UInt8) (ids : List Nat) (k : Int) (w : World) (h0 : lb.length ≤ maxLen) (h1 : ids.length ≤ maxLen) (r0 : Rv w v0 (byteCells lb)) (r1 : Rv w v1 (usCells ids))
    (hu : ∀ x ∈ ids, x < 18446744073709551616) (htab : Tab w.heap.size w) :
    Calls Tryd.prog 3 #[v0, v1, .int .i64 k] w fun e w' => e = .returned (.bool true) ∧ Below w.heap.size w w' := by
  have R0 : Hid (Rv w v0 (byteCells lb)) := r0
  have R1 : Hid (Rv w v1 (usCells ids)) := r1
  have HU : Hid (∀ x ∈ ids, x < 18446744073709551616) := hu
  have HT : Hid (Tab w.heap.size w) := htab
  obtain ⟨a0, c0, rfl, -, -, -⟩ := r0
  obtain ⟨a1, c1, rfl, -, -, -⟩ := r1
  rw [len_bytes] at R0 ⊢
  rw [len_us] at R1 ⊢
  clear hu htab
  go_enter Tryd.func3, Tryd.ntmps3
  go_wp2_with fail
  refine (bytes5 _ _ _ _ _ _ _ _ h0 h1).mono ?_
  rintro e w' ⟨b, rfl, rfl⟩
  unfold maxLen at h0 h1
  cases b
  · go_wp2_with fail
    go_ret
    exact ⟨rfl, Below.refl _ _⟩
  by_cases hA : (lb.length : Int) ≤ 1048576 ∧ (ids.length : Int) ≤ 131072 ∧ (lb.length : Int) + 8 * (ids.length : Int) ≤ 1048576
  case neg =>
    go_wp2_with fail
    all_goals
      go_ret
      exact ⟨rfl, Below.refl _ _⟩
  obtain ⟨hA1, hA2, hA3⟩ := hA
  clear h0 h1
  by_cases hk : k < 0 ∨ (ids.length : Int) < k
  · rcases hk with hk | hk
    · go_wp2_with fail
      go_ret
      exact ⟨rfl, Below.refl _ _⟩
    · have hk0 : ¬ k < 0 := by omega
      go_wp2_with fail
      go_ret
      exact ⟨rfl, Below.refl _ _⟩
  obtain ⟨n, rfl⟩ : ∃ n : Nat, k = n := ⟨k.toNat, by omega⟩
  have hn : n ≤ ids.length := by omega
  clear hk
  have hnn := fun (w : World) (a : Option Addr) (n c : Nat) => run_neq_slice_nil_any (P := Tryd.prog) w 23 29 a n c 0 0 Tryd.underlying23
  go_upto_if 42 with fail
  go_cut [1] (fun iv wc => Hid (Rv wc iv (usCells ids)) ∧ Hid (Below w.heap.size w wc))
  case first =>
    cases a1 with
    | none =>
      go_wp2_with fail
      go_meet
      case rel => exact ⟨R1, Below.refl _ _⟩
    | some x =>
      have hmk := fun w => make_us w ids.length (by omega)
      have hsrc := fun o => rv_src R1.out o
      have hg0 : (w.alloc (.cells (madeCells #[.int .u64 0] ids.length) 29)).heap[w.heap.size]? = some (.cells (madeCells #[.int .u64 0] ids.length).toList.toArray 29 (0, 0)) := by rw [heap_alloc_new, Array.toArray_toList]
      have HSrc : Hid (∀ o, 0 < (usCells ids).length → ∃ ad, some x = some ad ∧ ∀ j v, (usCells ids)[j]? = some v → (w.alloc o).cell? (ad.add j) = some v) := hsrc
      have HG0 : Hid ((w.alloc (.cells (madeCells #[.int .u64 0] ids.length) 29)).heap[w.heap.size]? = some (.cells (madeCells #[.int .u64 0] ids.length).toList.toArray 29 (0, 0))) := hg0
      clear hsrc hg0
      go_wp2_with (first | (refine wpList_copy_splice rfl _ _ 23 23 rfl 29 Tryd.underlying23 (by kernel_rfl) _ _ _ _ _ _ rfl rfl w.heap.size 0 (madeCells #[.int .u64 0] ids.length).toList 29 HG0.out (usCells ids) ?c1 ?c2 ?c3 (us_one ids) w.heap.size w ((Below.refl _ _).alloc (Nat.le_refl _) _) (Nat.le_refl _) ?_))
      case c1 => rw [len_us]; exact (Nat.min_self _).symm
      case c2 =>
        intro h
        obtain ⟨ad, e, hc⟩ := HSrc.out _ h
        cases e
        exact hc
      case c3 => rw [len_us]; simp [size_madeCells]
      intro w2 hg2 hb2
      have HR2 : Hid (Rv w2 (.slice (some ⟨w.heap.size, 0, none⟩) ids.length ids.length) (usCells ids)) := rv_row w2 w.heap.size ids.length ids rfl _ (by simp [size_madeCells]) hg2.out
      have HB2 : Hid (Below w.heap.size w w2) := hb2
      clear hg2 hb2
      go_wp2_with fail
      go_meet
      case rel => exact ⟨HR2, HB2⟩
  case rest =>
    obtain ⟨hRi, hBi⟩ := hcut
    have hlen : ∀ w, (Builtin.len_ #[23] 3 #[u1]).run Tryd.prog w = .ok (.int .i64 ids.length) w := fun w => by rw [rule_len 23 und23 hRi.out w, len_us]
    obtain ⟨vl, hs1, hv1⟩ := rule_to 23 und23 size23 hRi.out n (by rw [len_us]; exact hn)
    obtain ⟨vr, hs2, hv2⟩ := rule_from 23 und23 size23 hRi.out n (by rw [len_us]; exact hn)
    rw [us_take] at hv1
    rw [us_drop] at hv2
    have HV1 : Hid (∀ w', Rv w' u1 (usCells ids) → Rv w' vl (usCells (ids.take n))) := hv1
    have HV2 : Hid (∀ w', Rv w' u1 (usCells ids) → Rv w' vr (usCells (ids.drop n))) := hv2
    clear hv1 hv2 hnn
    have hUl : Hid (∀ x ∈ ids.take n, x < 18446744073709551616) := fun x hx => HU.out x (List.mem_of_mem_take hx)
    have hUr : Hid (∀ x ∈ ids.drop n, x < 18446744073709551616) := fun x hx => HU.out x (List.mem_of_mem_drop hx)
    have hLl : Hid ((ids.take n).length ≤ 1000000) := by show (ids.take n).length ≤ 1000000; rw [List.length_take]; omega
    have hLr : Hid ((ids.drop n).length ≤ 1000000) := by show (ids.drop n).length ≤ 1000000; rw [List.length_drop]; omega
    go_wp2_with fail
    refine (clone _ lb _ (by omega) (R0.out.later hBi.out)).mono ?_
    rintro e w2 ⟨bc, rfl, ho2, hb2⟩
    have HO2 : Hid (w2.ownsRow wc.heap.size 5 1 bc lb.length (byteCells lb)) := ho2
    have HB2 : Hid (Below wc.heap.size wc w2) := hb2
    have HW2 : Hid (Below w.heap.size w w2) := hBi.out.trans (hb2.mono hBi.out.size)
    clear ho2 hb2
    go_wp2_with fail
    refine (uint64s wc.heap.size bc u1 lb.length (byteCells lb) ids w2 HO2.out HB2.out.size (fun w' h' => hRi.out.later (HB2.out.trans h')) (HT.out.at HW2.out hBi.out.size) HU.out (by omega) (by omega)).mono ?_
    rintro e w3 ⟨out, rfl, ho3, hb3⟩
    rw [← bytes_app] at ho3
    have HR3 : Hid (Rv w3 out (byteCells (lb ++ jenc ids))) := Rv.of_own ho3
    have HB3 : Hid (Below wc.heap.size wc w3) := HB2.out.trans hb3
    have HW3 : Hid (Below w.heap.size w w3) := hBi.out.trans (HB3.out.mono hBi.out.size)
    have HI3 : Hid (Rv w3 u1 (usCells ids)) := hRi.out.later HB3.out
    clear ho3 hb3 HO2 HB2 HW2 HB3
    go_wp2_with fail
    refine (uint64s w3.heap.size (.slice none 0 0) vl 0 [] (ids.take n) w3 (World.ownsRow_nil _ _ _ _) (Nat.le_refl _) (fun w' h' => (HV1.out w3 HI3.out).later h') (HT.out.at HW3.out HW3.out.size) hUl.out (Nat.zero_le _) hLl.out).mono ?_
    rintro e w4 ⟨left, rfl, ho4, hb4⟩
    have HR4 : Hid (Rv w4 left (byteCells (jenc (ids.take n)))) := Rv.of_own ho4
    have HO4 : Hid (Rv w4 out (byteCells (lb ++ jenc ids))) := HR3.out.later hb4
    have HW4 : Hid (Below w.heap.size w w4) := HW3.out.trans (hb4.mono HW3.out.size)
    have HI4 : Hid (Rv w4 u1 (usCells ids)) := HI3.out.later hb4
    clear ho4 hb4 HR3 HW3 HI3
    go_wp2_with fail
    refine (uint64s w4.heap.size (.slice none 0 0) vr 0 [] (ids.drop n) w4 (World.ownsRow_nil _ _ _ _) (Nat.le_refl _) (fun w' h' => (HV2.out w4 HI4.out).later h') (HT.out.at HW4.out HW4.out.size) hUr.out (Nat.zero_le _) hLr.out).mono ?_
    rintro e w5 ⟨right, rfl, ho5, hb5⟩
    have HR5 : Hid (Rv w5 right (byteCells (jenc (ids.drop n)))) := Rv.of_own ho5
    have HL5 : Hid (Rv w5 left (byteCells (jenc (ids.take n)))) := HR4.out.later hb5
    have HO5 : Hid (Rv w5 out (byteCells (lb ++ jenc ids))) := HO4.out.later hb5
    have HW5 : Hid (Below w.heap.size w w5) := HW4.out.trans (hb5.mono HW4.out.size)
    have HI5 : Hid (Rv w5 u1 (usCells ids)) := HI4.out.later hb5
    clear ho5 hb5 HR4 HO4 HW4 HI4
    obtain ⟨pl, hpl⟩ : ∃ p, (jbody (ids.take n)).length = p := ⟨_, rfl⟩
    obtain ⟨pr, hpr⟩ : ∃ p, (jbody (ids.drop n)).length = p := ⟨_, rfl⟩
    obtain ⟨l1, ⟨b0, o0, i0, j0⟩, ⟨b1, o1, i1, j1⟩⟩ := arr_rules HL5.out pl hpl
    obtain ⟨m1, ⟨b2, o2, i2, j2⟩, ⟨b3, o3, i3, j3⟩⟩ := arr_rules HR5.out pr hpr
    have q0 := j0 _ HL5.out
    have q1 := j1 _ HL5.out
    have q2 := j2 _ HR5.out
    have q3 := j3 _ HR5.out
    have HPL : Hid ((jbody (ids.take n)).length = pl) := hpl
    have HPR : Hid ((jbody (ids.drop n)).length = pr) := hpr
    clear hpl hpr j0 j1 j2 j3
    have hpl2 : (pl : Int) ≤ 21000000 := by have := jbody_length _ hUl.out; have := hLl.out; have := HPL.out; omega
    have hpr2 : (pr : Int) ≤ 21000000 := by have := jbody_length _ hUr.out; have := hLr.out; have := HPR.out; omega
    obtain ⟨x1, hs3, hx1⟩ := rule_to 22 und22 size22 HL5.out (pl + 1) (by rw [len_bytes, jenc_length, HPL.out]; omega)
    obtain ⟨x2, hs4', hx2⟩ := rule_from 22 und22 size22 HR5.out 1 (by rw [len_bytes, jenc_length]; omega)
    have hs4 : ∀ w, (Instr.slice 22 right (some (.int .i64 1)) none none).run Tryd.prog w = .ok x2 w := hs4'
    rw [show (((pl + 1 : Nat)) : Int) = (pl : Int) + 2 - 1 by omega] at hs3
    rw [by_take, jenc_head _ _ HPL.out] at hx1
    rw [by_drop, jenc_tail] at hx2
    -- the pieces of the text, each under a name of its own
    obtain ⟨tA, htA⟩ : ∃ t : List UInt8, t = 91 :: jbody (ids.take n) := ⟨_, rfl⟩
    obtain ⟨tR, htR⟩ : ∃ t : List UInt8, t = jbody (ids.drop n) ++ [93] := ⟨_, rfl⟩
    obtain ⟨tS, htS⟩ : ∃ t : List UInt8, t = jsep (ids.take n) (ids.drop n) := ⟨_, rfl⟩
    obtain ⟨t1, ht1⟩ : ∃ t : List UInt8, t = lb ++ tA := ⟨_, rfl⟩
    obtain ⟨t2, ht2⟩ : ∃ t : List UInt8, t = t1 ++ tS := ⟨_, rfl⟩
    obtain ⟨t3, ht3⟩ : ∃ t : List UInt8, t = lb ++ jenc ids := ⟨_, rfl⟩
    have HT1 : Hid (t1 = lb ++ tA) := ht1
    have HT2 : Hid (t2 = t1 ++ tS) := ht2
    have HT3 : Hid (t3 = t2 ++ tR) := by show t3 = t2 ++ tR; rw [ht3, ht2, ht1, htA, htS, htR]; exact all_text lb ids n
    have HX1 : Hid (∀ w', Rv w' left (byteCells (jenc (ids.take n))) → Rv w' x1 (byteCells tA)) := by rw [htA]; exact hx1
    have HX2 : Hid (∀ w', Rv w' right (byteCells (jenc (ids.drop n))) → Rv w' x2 (byteCells tR)) := by rw [htR]; exact hx2
    have hlA : tA.length = pl + 1 := by rw [htA, List.length_cons, HPL.out]
    have hlR : tR.length = pr + 1 := by rw [htR, List.length_append, HPR.out]; rfl
    have hlS : tS.length ≤ 1 := by rw [htS]; unfold jsep; split <;> simp
    have HPA : Hid (0 < tA.length) := by show 0 < tA.length; omega
    have HPR0 : Hid (0 < tR.length) := by show 0 < tR.length; omega
    have HL1 : Hid (t1.length ≤ 100000000) := by show t1.length ≤ 100000000; rw [ht1, List.length_append]; omega
    have HL2 : Hid (t2.length ≤ 100000000) := by show t2.length ≤ 100000000; rw [ht2, ht1, List.length_append, List.length_append]; omega
    have HL3 : Hid (t3.length ≤ 100000000) := by show t3.length ≤ 100000000; rw [HT3.out, ht2, ht1, List.length_append, List.length_append, List.length_append]; omega
    have HTS : Hid (tS = jsep (ids.take n) (ids.drop n)) := htS
    have HO5' : Hid (Rv w5 out (byteCells t3)) := by rw [ht3]; exact HO5
    clear hx1 hx2 hs4' htA htR htS ht1 ht2 ht3 hlA hlR hlS HO5
    go_wp2_with fail
    refine (clone _ lb _ (by omega) (R0.out.later HW5.out)).mono ?_
    rintro e w6 ⟨want, rfl, ho6, hb6⟩
    have HO6 : Hid (w6.ownsRow w5.heap.size 5 1 want lb.length (byteCells lb)) := ho6
    have HB6 : Hid (Below w5.heap.size w5 w6) := hb6
    clear ho6 hb6
    go_wp2_with (first | (at_builtin; refine wpList_app _ rfl _ _ rfl w5.heap.size _ lb tA t1 HT1.out rfl HO6.out _ rfl (HX1.out _ (HL5.out.later HB6.out)) HPA.out HB6.out.size HL1.out ?_))
    intro want7 w7 HO7 hb7
    have HB7 : Hid (Below w5.heap.size w5 w7) := HB6.out.trans hb7.out
    clear hb7 HO6 HB6 i0 i1 i2 i3 q0 q1 q2 q3 hs1 hs2 hs3 l1
    by_cases hend : ids.length ≤ n
    · have HSn : Hid (tS = []) := HTS.out.trans (jsep_nil ids n (Or.inr hend))
      have HO8 : Hid (w7.ownsRow w5.heap.size 5 1 want7 t2.length (byteCells t2)) := by
        show World.ownsRow _ _ _ _ _ _ _
        rw [HT2.out, HSn.out, List.append_nil]
        exact HO7.out
      have HB8 : Hid (Below w5.heap.size w5 w7) := HB7
      have hlt : ¬ (n : Int) < (ids.length : Int) := by omega
      have hlt' : decide ((n : Int) < (ids.length : Int)) = false := decide_eq_false hlt
      have hpr0 : ((pr : Int) + 2 == 2) = true := by
        have e : pr = 0 := by rw [← HPR.out, List.drop_of_length_le hend]; rfl
        rw [e]; rfl
      by_cases hz : (0 : Int) < (n : Int)
      · go_wp2_with (first | (at_builtin; refine wpList_app _ rfl _ _ rfl w5.heap.size _ t2 tR t3 HT3.out rfl HO8.out _ rfl (HX2.out _ (HR5.out.later HB8.out)) HPR0.out HB8.out.size HL3.out ?_))
        intro want9 w9 HO9 hb9
        have HR9 : Hid (Rv w9 want9 (byteCells t3)) := Rv.of_own HO9.out
        have HB9 : Hid (Below w5.heap.size w5 w9) := HB8.out.trans hb9.out
        clear hb9 HO9 HO8 HB8
        go_wp2_with fail
        refine (eqB_true _ _ t3 _ HL3.out (HO5'.out.later HB9.out) HR9.out).mono ?_
        rintro e w10 ⟨rfl, n10, hw10⟩
        have HBA : Hid (Below w5.heap.size w5 w10) := by rw [hw10]; exact below_drewN HB9.out n10
        clear hw10 HR9 HB9
        go_wp2_with fail
        go_ret
        exact ⟨rfl, HW5.out.trans (HBA.out.mono HW5.out.size)⟩
      · go_wp2_with (first | (at_builtin; refine wpList_app _ rfl _ _ rfl w5.heap.size _ t2 tR t3 HT3.out rfl HO8.out _ rfl (HX2.out _ (HR5.out.later HB8.out)) HPR0.out HB8.out.size HL3.out ?_))
        intro want9 w9 HO9 hb9
        have HR9 : Hid (Rv w9 want9 (byteCells t3)) := Rv.of_own HO9.out
        have HB9 : Hid (Below w5.heap.size w5 w9) := HB8.out.trans hb9.out
        clear hb9 HO9 HO8 HB8
        go_wp2_with fail
        refine (eqB_true _ _ t3 _ HL3.out (HO5'.out.later HB9.out) HR9.out).mono ?_
        rintro e w10 ⟨rfl, n10, hw10⟩
        have HBA : Hid (Below w5.heap.size w5 w10) := by rw [hw10]; exact below_drewN HB9.out n10
        clear hw10 HR9 HB9
        go_wp2_with fail
        go_ret
        exact ⟨rfl, HW5.out.trans (HBA.out.mono HW5.out.size)⟩
    · have hlt : (n : Int) < (ids.length : Int) := by omega
      have hltn : n < ids.length := by omega
      obtain ⟨x, hx⟩ : ∃ x, x = ids[n] := ⟨_, rfl⟩
      have HUx1 : Hid (x < 18446744073709551616) := by rw [hx]; exact HU.out _ (List.getElem_mem hltn)
      have HUx : Hid (∀ y ∈ [x], y < 18446744073709551616) := fun y hy => by simp at hy; subst hy; exact HUx1.out
      obtain ⟨y3, hs5, hy3⟩ := rule_both 23 und23 size23 HI5.out n (n + 1) (by omega) (by rw [len_us]; omega)
      have e3 : ((usCells ids).take (n + 1)).drop n = usCells [x] := by
        rw [us_take, us_drop, List.take_succ_eq_append_getElem hltn, List.drop_append_of_le_length (by rw [List.length_take]; omega), List.drop_of_length_le (by rw [List.length_take]; omega), hx]
        rfl
      rw [e3] at hy3
      have hs6 : ∀ w, (Instr.slice 23 u1 (some (.int .i64 n)) (some (.int .i64 ((n : Int) + 1))) none).run Tryd.prog w = .ok y3 w := hs5
      have HY3 : Hid (∀ w', Rv w' u1 (usCells ids) → Rv w' y3 (usCells [x])) := hy3
      obtain ⟨bq, oq, hiq, hqx⟩ := rule_at 23 und23 size23 HI5.out n (by rw [len_us]; exact hltn)
      rw [usCells_at ids n hltn, ← hx] at hqx
      obtain ⟨tD, htD⟩ : ∃ t : List UInt8, t = decDigits x := ⟨_, rfl⟩
      obtain ⟨tE, htE⟩ : ∃ t : List UInt8, t = [91] ++ tD := ⟨_, rfl⟩
      obtain ⟨tJ, htJ⟩ : ∃ t : List UInt8, t = jenc [x] := ⟨_, rfl⟩
      have HTD : Hid (tD = decDigits x) := htD
      have HTE : Hid (tE = [91] ++ tD) := htE
      have HTJ : Hid (tJ = jenc [x]) := htJ
      have HTJ2 : Hid (tJ = tE ++ [93]) := by show tJ = tE ++ [93]; rw [htJ, htE, htD]; rfl
      have hdl := dec_length x HUx1.out
      have HPD : Hid (0 < tD.length) := by rw [htD]; exact hdl.1
      have HLE : Hid (tE.length ≤ 100000000) := by show tE.length ≤ 100000000; rw [htE, List.length_append, htD]; simp; omega
      have HLJ : Hid (tJ.length ≤ 100000000) := by show tJ.length ≤ 100000000; rw [HTJ2.out, htE, List.length_append, List.length_append, htD]; simp; omega
      clear hs5 hy3 e3 htD htE htJ hdl hx hltn
      by_cases hz : (0 : Int) < (n : Int)
      · have HT2' : Hid (t2 = t1 ++ [44]) := by show t2 = t1 ++ [44]; rw [HT2.out, HTS.out, jsep_one ids n (by omega) (by omega)]
        have HS8 : Hid (w5.heap.size ≤ (w7.alloc (.cells #[.int .u8 44] 5)).heap.size) := by show w5.heap.size ≤ (w7.alloc (.cells #[.int .u8 44] 5)).heap.size; have := HB7.out.size; simp; omega
        go_wp2_with (first | (at_builtin; refine wpList_app _ rfl _ _ rfl w5.heap.size _ t1 [44] t2 HT2'.out rfl (HO7.out.alloc _) _ rfl (rv_44 w7) (by decide) HS8.out HL2.out ?_))
        intro want8 w8 HO8 hb8
        have HB8 : Hid (Below w5.heap.size w5 w8) := (HB7.out.alloc HB7.out.size _).trans hb8.out
        clear hb8 HO7 HB7 HS8
        go_wp2_with (first | (at_builtin; refine wpList_app _ rfl _ _ rfl w5.heap.size _ t2 tR t3 HT3.out rfl HO8.out _ rfl (HX2.out _ (HR5.out.later HB8.out)) HPR0.out HB8.out.size HL3.out ?_))
        intro want9 w9 HO9 hb9
        have HR9 : Hid (Rv w9 want9 (byteCells t3)) := Rv.of_own HO9.out
        have HB9 : Hid (Below w5.heap.size w5 w9) := HB8.out.trans hb9.out
        clear hb9 HO9 HO8 HB8
        go_wp2_with fail
        refine (eqB_true _ _ t3 _ HL3.out (HO5'.out.later HB9.out) HR9.out).mono ?_
        rintro e w10 ⟨rfl, n10, hw10⟩
        have HBA : Hid (Below w5.heap.size w5 w10) := by rw [hw10]; exact below_drewN HB9.out n10
        clear hw10 HR9 HB9
        have HWA : Hid (Below w.heap.size w w10) := HW5.out.trans (HBA.out.mono HW5.out.size)
        have HIA : Hid (Rv w10 u1 (usCells ids)) := HI5.out.later HBA.out
        go_wp2_with fail
        refine (uint64s w10.heap.size (.slice none 0 0) y3 0 [] [x] w10 (World.ownsRow_nil _ _ _ _) (Nat.le_refl _) (fun w' h' => (HY3.out w10 HIA.out).later h') (HT.out.at HWA.out HWA.out.size) HUx.out (Nat.zero_le _) (by simp)).mono ?_
        rintro e w11 ⟨one, rfl, ho11, hb11⟩
        have HR11 : Hid (Rv w11 one (byteCells tJ)) := by rw [HTJ.out]; exact Rv.of_own ho11
        have HW11 : Hid (Below w.heap.size w w11) := HWA.out.trans (hb11.mono HWA.out.size)
        have HI11 : Hid (Rv w11 u1 (usCells ids)) := HIA.out.later hb11
        have hq := hqx _ HI11.out
        have hbq := block_lt_of_cell hq
        simp only at hbq
        clear ho11 hb11 HBA HIA HWA
        go_wp2_with fail
        refine (decimal x _ HUx1.out).mono ?_
        rintro e w12 ⟨dv, rfl, hr12, hb12⟩
        have HR12 : Hid (Rv w12 dv (byteCells tD)) := by rw [HTD.out]; exact hr12
        have HO12 : Hid (w12.ownsRow w11.heap.size 5 1 (.slice (some ⟨w11.heap.size, 0, none⟩) 1 1) [(91 : UInt8)].length (byteCells [91])) := own_later (own_91 w11) hb12
        have HB12 : Hid (Below w11.heap.size w11 w12) := ((Below.refl _ _).alloc (Nat.le_refl _) _).trans (hb12.mono (by simp))
        clear hr12 hb12 hq hbq
        go_wp2_with (first | (at_builtin; refine wpList_app _ rfl _ _ rfl w11.heap.size _ [91] tD tE HTE.out rfl HO12.out _ rfl HR12.out HPD.out HB12.out.size HLE.out ?_))
        intro e13 w13 HO13 hb13
        have HB13 : Hid (Below w11.heap.size w11 w13) := HB12.out.trans hb13.out
        have HS13 : Hid (w11.heap.size ≤ (w13.alloc (.cells #[.int .u8 93] 5)).heap.size) := by show w11.heap.size ≤ (w13.alloc (.cells #[.int .u8 93] 5)).heap.size; have := HB13.out.size; simp; omega
        clear hb13 HO12 HB12 HR12
        go_wp2_with (first | (at_builtin; refine wpList_app _ rfl _ _ rfl w11.heap.size _ tE [93] tJ HTJ2.out rfl (HO13.out.alloc _) _ rfl (rv_93 w13) (by decide) HS13.out HLJ.out ?_))
        intro e14 w14 HO14 hb14
        have HR14 : Hid (Rv w14 e14 (byteCells tJ)) := Rv.of_own HO14.out
        have HB14 : Hid (Below w11.heap.size w11 w14) := (HB13.out.alloc HB13.out.size _).trans hb14.out
        clear hb14 HO13 HO14 HB13 HS13
        go_wp2_with fail
        refine (eqB_true _ _ tJ _ HLJ.out (HR11.out.later HB14.out) HR14.out).mono ?_
        rintro e w15 ⟨rfl, n15, hw15⟩
        have HB15 : Hid (Below w11.heap.size w11 w15) := by rw [hw15]; exact below_drewN HB14.out n15
        clear hw15
        go_wp2_with fail
        go_ret
        exact ⟨rfl, HW11.out.trans (HB15.out.mono HW11.out.size)⟩
      · have HSn : Hid (tS = []) := HTS.out.trans (jsep_nil ids n (Or.inl (by omega)))
        have HO8 : Hid (w7.ownsRow w5.heap.size 5 1 want7 t2.length (byteCells t2)) := by
          show World.ownsRow _ _ _ _ _ _ _
          rw [HT2.out, HSn.out, List.append_nil]
          exact HO7.out
        have HB8 : Hid (Below w5.heap.size w5 w7) := HB7
        clear HO7 HB7
        go_wp2_with (first | (at_builtin; refine wpList_app _ rfl _ _ rfl w5.heap.size _ t2 tR t3 HT3.out rfl HO8.out _ rfl (HX2.out _ (HR5.out.later HB8.out)) HPR0.out HB8.out.size HL3.out ?_))
        intro want9 w9 HO9 hb9
        have HR9 : Hid (Rv w9 want9 (byteCells t3)) := Rv.of_own HO9.out
        have HB9 : Hid (Below w5.heap.size w5 w9) := HB8.out.trans hb9.out
        clear hb9 HO9 HO8 HB8
        go_wp2_with fail
        refine (eqB_true _ _ t3 _ HL3.out (HO5'.out.later HB9.out) HR9.out).mono ?_
        rintro e w10 ⟨rfl, n10, hw10⟩
        have HBA : Hid (Below w5.heap.size w5 w10) := by rw [hw10]; exact below_drewN HB9.out n10
        clear hw10 HR9 HB9
        have HWA : Hid (Below w.heap.size w w10) := HW5.out.trans (HBA.out.mono HW5.out.size)
        have HIA : Hid (Rv w10 u1 (usCells ids)) := HI5.out.later HBA.out
        go_wp2_with fail
        refine (uint64s w10.heap.size (.slice none 0 0) y3 0 [] [x] w10 (World.ownsRow_nil _ _ _ _) (Nat.le_refl _) (fun w' h' => (HY3.out w10 HIA.out).later h') (HT.out.at HWA.out HWA.out.size) HUx.out (Nat.zero_le _) (by simp)).mono ?_
        rintro e w11 ⟨one, rfl, ho11, hb11⟩
        have HR11 : Hid (Rv w11 one (byteCells tJ)) := by rw [HTJ.out]; exact Rv.of_own ho11
        have HW11 : Hid (Below w.heap.size w w11) := HWA.out.trans (hb11.mono HWA.out.size)
        have HI11 : Hid (Rv w11 u1 (usCells ids)) := HIA.out.later hb11
        have hq := hqx _ HI11.out
        have hbq := block_lt_of_cell hq
        simp only at hbq
        clear ho11 hb11 HBA HIA HWA
        go_wp2_with fail
        refine (decimal x _ HUx1.out).mono ?_
        rintro e w12 ⟨dv, rfl, hr12, hb12⟩
        have HR12 : Hid (Rv w12 dv (byteCells tD)) := by rw [HTD.out]; exact hr12
        have HO12 : Hid (w12.ownsRow w11.heap.size 5 1 (.slice (some ⟨w11.heap.size, 0, none⟩) 1 1) [(91 : UInt8)].length (byteCells [91])) := own_later (own_91 w11) hb12
        have HB12 : Hid (Below w11.heap.size w11 w12) := ((Below.refl _ _).alloc (Nat.le_refl _) _).trans (hb12.mono (by simp))
        clear hr12 hb12 hq hbq
        go_wp2_with (first | (at_builtin; refine wpList_app _ rfl _ _ rfl w11.heap.size _ [91] tD tE HTE.out rfl HO12.out _ rfl HR12.out HPD.out HB12.out.size HLE.out ?_))
        intro e13 w13 HO13 hb13
        have HB13 : Hid (Below w11.heap.size w11 w13) := HB12.out.trans hb13.out
        have HS13 : Hid (w11.heap.size ≤ (w13.alloc (.cells #[.int .u8 93] 5)).heap.size) := by show w11.heap.size ≤ (w13.alloc (.cells #[.int .u8 93] 5)).heap.size; have := HB13.out.size; simp; omega
        clear hb13 HO12 HB12 HR12
        go_wp2_with (first | (at_builtin; refine wpList_app _ rfl _ _ rfl w11.heap.size _ tE [93] tJ HTJ2.out rfl (HO13.out.alloc _) _ rfl (rv_93 w13) (by decide) HS13.out HLJ.out ?_))
        intro e14 w14 HO14 hb14
        have HR14 : Hid (Rv w14 e14 (byteCells tJ)) := Rv.of_own HO14.out
        have HB14 : Hid (Below w11.heap.size w11 w14) := (HB13.out.alloc HB13.out.size _).trans hb14.out
        clear hb14 HO13 HO14 HB13 HS13
        go_wp2_with fail
        refine (eqB_true _ _ tJ _ HLJ.out (HR11.out.later HB14.out) HR14.out).mono ?_
        rintro e w15 ⟨rfl, n15, hw15⟩
        have HB15 : Hid (Below w11.heap.size w11 w15) := by rw [hw15]; exact below_drewN HB14.out n15
        clear hw15
        go_wp2_with fail
        go_ret
        exact ⟨rfl, HW11.out.trans (HB15.out.mono HW11.out.size)⟩

end Go.Proofs.Qxb6630799aDoor
