/-
  DERIVED. THE WALK OF zzReadsBackAs.
-/
import Derived.Test.Qxb6630799aDoorParse
namespace Go.Proofs.Qxb6630799aDoor
open Go.RowKit
open Go.Lib (byteCells byteCells_length decDigits)

theorem jenc_last (l : List Nat) (p : Nat) (hp : (jbody l).length = p) : (byteCells (jenc l))[p + 1]? = some (.int .u8 93) := by
  have e : (jenc l)[p + 1]? = some 93 := by
    unfold jenc
    rw [List.getElem?_cons_succ, List.getElem?_append_right (by omega)]
    simp [hp]
  unfold byteCells
  rw [List.getElem?_map, e]
  rfl

set_option maxRecDepth 20000 in
theorem back_nil (tv wv : Value) (w : World) (h1 : Rv w tv (byteCells (jenc []))) (h2 : Rv w wv (usCells [])) :
    Calls Tryd.prog 11 #[tv, wv] w fun e w' => e = .returned (.bool true) ∧ w' = w := by
  obtain ⟨a1, c1, rfl, -, -, hp1⟩ := h1
  obtain ⟨a2, c2, rfl, -, -, -⟩ := h2
  obtain ⟨b, off, rfl, hc⟩ := hp1 (by decide)
  have q0 : w.cell? ⟨b, off, none⟩ = some (.int .u8 91) := hc 0 _ rfl
  have q1 : w.cell? ⟨b, off + 1, none⟩ = some (.int .u8 93) := hc 1 _ rfl
  have e1 : (byteCells (jenc [])).length = 2 := rfl
  have e2 : (usCells []).length = 0 := rfl
  rw [e1, e2]
  clear hc hp1 e1 e2
  go_enter Tryd.func11, Tryd.ntmps11
  go_wp2
  go_ret
  exact ⟨rfl, rfl⟩

/-- One digit's facts. -/
structure Dig (w : World) (b off k : Nat) (v v' c : Int) : Prop where
  cell : w.cell? ⟨b, off + k, none⟩ = some (.int .u8 c)
  lo : 48 ≤ c
  hi : c ≤ 57
  next : v' = v * 10 + (c - 48)
  v0 : 0 ≤ v
  top : v ≤ 1844674407370955161
  edge : v = 1844674407370955161 → c - 48 ≤ 5
  wrap1 : IntKind.u64.wrap (v * 10) = v * 10
  wrap2 : IntKind.u64.wrap (v * 10 + (c - 48)) = v * 10 + (c - 48)

/-- The facts at one number. -/
structure Num (w : World) (b off b2 off2 : Nat) (l : List Nat) (p i j : Nat) (x : Int) (L : Nat) (V : Nat → Int) : Prop where
  l1 : 1 ≤ L
  l2 : L ≤ 20
  fit : i + L ≤ p + 1
  last : i + L = p + 1 ↔ j + 1 = l.length
  want : w.cell? ⟨b2, off2 + j, none⟩ = some (.int .u64 x)
  v0 : V 0 = 0
  vL : V L = x
  digs : ∀ m, m < L → ∃ c, Dig w b off (i + m) (V m) (V (m + 1)) c
  lead : ∃ c, w.cell? ⟨b, off + i, none⟩ = some (.int .u8 c) ∧ (c = 48 → L = 1)
  next : j + 1 < l.length → w.cell? ⟨b, off + (i + L), none⟩ = some (.int .u8 44) ∧ Ahead l (i + L + 1) (j + 1)

theorem num_facts {w : World} {b off b2 off2 : Nat} {l : List Nat} {p i j : Nat} (hA : Ahead l i j) (hp : (jbody l).length = p)
    (HC : ∀ k, (hk : k < (jenc l).length) → w.cell? ⟨b, off + k, none⟩ = some (.int .u8 ((jenc l)[k].toNat : Int)))
    (HC2 : ∀ k, (hk : k < l.length) → w.cell? ⟨b2, off2 + k, none⟩ = some (.int .u64 (l[k] : Int))) (hu : ∀ x ∈ l, x < 18446744073709551616) :
    ∃ x L V, Num w b off b2 off2 l p i j x L V := by
  have hj := hA.hj
  obtain ⟨f1, f2, f3, f4⟩ := hA.facts p hp
  have hx := hu l[j] (List.getElem_mem hj)
  have hdl := dec_length l[j] hx
  refine ⟨(l[j] : Int), (decDigits l[j]).length, fun m => ((vAt l[j] m : Nat) : Int), hdl.1, hdl.2, f1, f2, HC2 j hj, by simp [vAt_zero], by simp [vAt_end], ?_, ?_, ?_⟩
  · intro m hm
    obtain ⟨hk, e⟩ := f3 m hm
    have hc := HC (i + m) hk
    rw [e, dec_at _ m hm] at hc
    have hs := vAt_succ l[j] m hm
    have hle := vAt_le l[j] (m + 1)
    have hmod : l[j] / 10 ^ ((decDigits l[j]).length - 1 - m) % 10 < 10 := Nat.mod_lt _ (by omega)
    generalize l[j] / 10 ^ ((decDigits l[j]).length - 1 - m) % 10 = d at hc hs hmod
    generalize vAt l[j] m = v at hs ⊢
    refine ⟨((48 + d : Nat) : Int), hc, by omega, by omega, ?_, by omega, by omega, by omega, ?_, ?_⟩
    · show ((vAt l[j] (m + 1) : Nat) : Int) = _
      rw [hs]
      omega
    · rw [IntKind.wrap_u64]; omega
    · rw [IntKind.wrap_u64]; omega
  · obtain ⟨hk, e⟩ := f3 0 (by omega)
    have hc := HC (i + 0) hk
    rw [e, dec_at _ 0 (by omega)] at hc
    refine ⟨_, hc, fun h => dec_lead l[j] ?_⟩
    rw [Nat.sub_zero] at h
    omega
  · intro h
    obtain ⟨⟨hk, e⟩, hA'⟩ := f4 h
    have hc := HC _ hk
    rw [e] at hc
    exact ⟨hc, hA'⟩

set_option maxRecDepth 20000 in
set_option maxHeartbeats 1000000 in
theorem back_cons (tv wv : Value) (l : List Nat) (w : World) (hl0 : 0 < l.length) (hl : l.length ≤ 1000000) (hu : ∀ x ∈ l, x < 18446744073709551616) (h1 : Rv w tv (byteCells (jenc l))) (h2 : Rv w wv (usCells l)) :
    Calls Tryd.prog 11 #[tv, wv] w fun e w' => e = .returned (.bool true) ∧ w' = w := by
  obtain ⟨a1, c1, rfl, -, -, hp1⟩ := h1
  obtain ⟨a2, c2, rfl, -, -, hp2⟩ := h2
  obtain ⟨p, hp⟩ : ∃ p, (jbody l).length = p := ⟨_, rfl⟩
  have e1 : (byteCells (jenc l)).length = p + 2 := by rw [len_bytes, jenc_length, hp]
  rw [e1] at hp1 ⊢
  rw [len_us] at hp2 ⊢
  obtain ⟨b, off, rfl, hc⟩ := hp1 (by omega)
  obtain ⟨b2, off2, rfl, hc2⟩ := hp2 hl0
  have hpl := jbody_length l hu
  have hp0 : p ≠ 0 := by
    intro e
    have := jbody_nil l (List.eq_nil_of_length_eq_zero (hp.trans e)) hu
    rw [this] at hl0
    simp at hl0
  have HC : Hid (∀ k, (hk : k < (jenc l).length) → w.cell? ⟨b, off + k, none⟩ = some (.int .u8 ((jenc l)[k].toNat : Int))) := fun k hk => hc k _ (byteCells_at _ k hk)
  have HC2 : Hid (∀ k, (hk : k < l.length) → w.cell? ⟨b2, off2 + k, none⟩ = some (.int .u64 (l[k] : Int))) := fun k hk => hc2 k _ (usCells_at _ k hk)
  have HP : Hid ((jbody l).length = p) := hp
  have HU : Hid (∀ x ∈ l, x < 18446744073709551616) := hu
  have q0 : w.cell? ⟨b, off, none⟩ = some (.int .u8 91) := hc 0 _ rfl
  have q1 : w.cell? ⟨b, off + (p + 1), none⟩ = some (.int .u8 93) := hc (p + 1) _ (jenc_last l p hp)
  have hpI : (p : Int) ≤ 21000000 := by omega
  have hne : ((p : Int) + 2 == 2) = false := by simp; omega
  have HA0 : Hid (Ahead l 1 0) := Ahead.start l hl0
  clear hc hc2 hp1 hp2 hpl hp0 hp hu e1
  go_enter Tryd.func11, Tryd.ntmps11
  go_wp2
  go_loop [6, 7] (fun s6 s7 => ∃ i j : Nat, s6 = .int .i64 i ∧ s7 = .int .i64 j ∧ Hid (Ahead l i j)) (fun s6 _ => p + 2 - (intOf s6).toNat)
  case atStart => exact ⟨1, 0, rfl, rfl, HA0⟩
  case round =>
    obtain ⟨i, j, rfl, rfl, hA⟩ := hrel
    have hj := hA.out.hj
    obtain ⟨x, L, V, N⟩ := num_facts hA.out HP.out HC.out HC2.out HU.out
    have HN : Hid (Num w b off b2 off2 l p i j x L V) := N
    have hL1 := N.l1
    have hfit := N.fit
    have HV0 : Hid ((0 : Int) = V 0) := N.v0.symm
    clear N
    go_wp2
    go_loop [6, 9] (fun s6 s9 => ∃ (m : Nat) (v : Int), m ≤ L ∧ s6 = .int .i64 ((i : Int) + m) ∧ s9 = .int .u64 v ∧ Hid (v = V m)) (fun s6 _ => p + 2 - (intOf s6).toNat)
    case atStart => exact ⟨0, 0, Nat.zero_le _, by simp, rfl, HV0⟩
    case round =>
      obtain ⟨m, v, hm, rfl, rfl, hv⟩ := hrel
      by_cases hlt : m < L
      · obtain ⟨c, D⟩ := HN.out.digs m hlt
        rw [← hv.out] at D
        have HX : Hid (v * 10 + (c - 48) = V (m + 1)) := D.next.symm
        have d1 := D.cell
        have d2 := D.lo
        have d3 := D.hi
        have d4 := D.v0
        have d5 := D.top
        have d6 := D.wrap1
        have d7 := D.wrap2
        have d8 := D.edge
        clear D
        by_cases hE : v = 1844674407370955161
        · have d9 := d8 hE
          have hE' : (v == 1844674407370955161) = true := by simpa using hE
          clear hE d8
          go_wp2
          go_round
          case rel => exact ⟨m + 1, _, by omega, by go_num, rfl, HX⟩
          case measure => simp [intOf]; omega
        · have hE' : (v == 1844674407370955161) = false := by simpa using hE
          clear hE d8
          go_wp2
          go_round
          case rel => exact ⟨m + 1, _, by omega, by go_num, rfl, HX⟩
          case measure => simp [intOf]; omega
      · have HM : Hid (m = L) := by show m = L; omega
        obtain rfl : v = x := by rw [hv.out, HM.out]; exact HN.out.vL
        have hw := HN.out.want
        have hne1 : ((i : Int) + (m : Int) == (i : Int)) = false := by simp; omega
        obtain ⟨c, hcl, hl48⟩ := HN.out.lead
        have hjI : (j : Int) < (l.length : Int) := by omega
        have H48 : Hid (c = 48 → L = 1) := hl48
        clear hl48
        by_cases hlast : j + 1 = l.length
        · have hpe := HN.out.last.2 hlast
          have g1 : ¬ (i : Int) + (m : Int) < (p : Int) + 2 - 1 := by omega
          have g2 : ((i : Int) + (m : Int) == (p : Int) + 2 - 1) = true := by simp; omega
          have g3 : ((j : Int) + 1 == (l.length : Int)) = true := by simp; omega
          by_cases h48 : c = 48
          · have e48 : (c == 48) = true := by simpa using h48
            have g4 : ¬ (1 : Int) < (i : Int) + (m : Int) - (i : Int) := by have := H48.out h48; omega
            clear h48 hpe hlast
            go_wp2
            go_ret
            exact ⟨rfl, rfl⟩
          · have e48 : (c == 48) = false := by simpa using h48
            clear h48 hpe hlast
            go_wp2
            go_ret
            exact ⟨rfl, rfl⟩
        · obtain ⟨h44, hA'⟩ := HN.out.next (by omega)
          rw [← HM.out] at h44 hA'
          have HA' : Hid (Ahead l (i + m + 1) (j + 1)) := hA'
          have hpe : ¬ i + L = p + 1 := fun e => hlast (HN.out.last.1 e)
          have g1 : (i : Int) + (m : Int) < (p : Int) + 2 - 1 := by omega
          have g2 : ((i : Int) + (m : Int) == (p : Int) + 2 - 1) = false := by simp; omega
          by_cases h48 : c = 48
          · have e48 : (c == 48) = true := by simpa using h48
            have g4 : ¬ (1 : Int) < (i : Int) + (m : Int) - (i : Int) := by have := H48.out h48; omega
            clear h48 hpe hlast hA'
            go_wp2
            go_round
            case rel => exact ⟨i + m + 1, j + 1, by go_num, by go_num, HA'⟩
            case measure => simp [intOf]; omega
          · have e48 : (c == 48) = false := by simpa using h48
            clear h48 hpe hlast hA'
            go_wp2
            go_round
            case rel => exact ⟨i + m + 1, j + 1, by go_num, by go_num, HA'⟩
            case measure => simp [intOf]; omega

theorem back_any (tv wv : Value) (l : List Nat) (w : World) (hl : l.length ≤ 1000000) (hu : ∀ x ∈ l, x < 18446744073709551616) (h1 : Rv w tv (byteCells (jenc l))) (h2 : Rv w wv (usCells l)) :
    Calls Tryd.prog 11 #[tv, wv] w fun e w' => e = .returned (.bool true) ∧ w' = w := by
  cases l with
  | nil => exact back_nil tv wv w h1 h2
  | cons x r => exact back_cons tv wv (x :: r) w (by simp) hl hu h1 h2

end Go.Proofs.Qxb6630799aDoor
