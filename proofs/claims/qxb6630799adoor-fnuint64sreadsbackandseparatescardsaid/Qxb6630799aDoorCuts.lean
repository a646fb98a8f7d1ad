/-
  DERIVED. A SLICE TAKEN AS A WHOLE: what len, a cut and an index give.
-/
import Derived.Test.Qxb6630799aDoorDec
import Derived.Deep.DeepCutAuto
import Derived.Laws.CopyOwn
namespace Go.Proofs.Qxb6630799aDoor
open Go.RowKit
open Go.Lib (byteCells byteCells_length decDigits)

theorem elem23 : Tryd.prog.elem 23 = 29 := by kernel_rfl
theorem elem22 : Tryd.prog.elem 22 = 5 := by kernel_rfl
theorem und23 : Tryd.prog.underlying 23 = some (.slice (Tryd.prog.elem 23)) := by kernel_rfl
theorem und22 : Tryd.prog.underlying 22 = some (.slice (Tryd.prog.elem 22)) := by kernel_rfl
theorem size23 (w : World) : (sizeOf (Tryd.prog.elem 23)).run Tryd.prog w = .ok 1 w := by kernel_rfl
theorem size22 (w : World) : (sizeOf (Tryd.prog.elem 22)).run Tryd.prog w = .ok 1 w := by kernel_rfl

theorem add_plain (b off j : Nat) : (⟨b, off, none⟩ : Addr).add j = ⟨b, off + j, none⟩ := by unfold Addr.add; split <;> simp_all

section
variable {w0 : World} {iv : Value} {cs : List Value}

theorem rule_len (t : TypeId) (hu : Tryd.prog.underlying t = some (.slice (Tryd.prog.elem t))) (h : Rv w0 iv cs) (w : World) : (Builtin.len_ #[t] 3 #[iv]).run Tryd.prog w = .ok (.int .i64 cs.length) w := by
  obtain ⟨a, cap, rfl, -, -, -⟩ := h
  exact run_len_slice w t 3 a cs.length cap hu

theorem Rv.sliced {a : Option Addr} {cap : Nat} (hcap : cs.length ≤ cap) (hn : a = none → cap = 0) (l h : Nat) (hl : l ≤ h) (hh : h ≤ cs.length) {w' : World}
    (hr : Rv w' (.slice a cs.length cap) cs) : Rv w' (sliced a l h cap 1) ((cs.take h).drop l) := by
  obtain ⟨a2, cap2, hv, -, -, hp⟩ := hr
  obtain ⟨rfl, rfl⟩ : a = a2 ∧ cap = cap2 := by cases hv; exact ⟨rfl, rfl⟩
  have hlen : ((cs.take h).drop l).length = h - l := by simp; omega
  unfold Go.sliced
  refine ⟨_, cap - l, by rw [hlen], by rw [hlen]; omega, ?_, ?_⟩
  · intro e
    split at e
    · have := hn e; omega
    · cases a with
      | none => have := hn rfl; omega
      | some x => cases e
  · intro h0
    rw [hlen] at h0
    obtain ⟨b, off, rfl, hc⟩ := hp (by omega)
    rw [if_neg (by omega)]
    refine ⟨b, off + l, by simp [add_plain], fun j u hj => ?_⟩
    rw [List.getElem?_drop, List.getElem?_take] at hj
    split at hj
    · have := hc (l + j) u hj
      rw [Nat.add_assoc]
      exact this
    · cases hj

/-- iv[:h] -/
theorem rule_to (t : TypeId) (hu : Tryd.prog.underlying t = some (.slice (Tryd.prog.elem t))) (hs : ∀ w, (sizeOf (Tryd.prog.elem t)).run Tryd.prog w = .ok 1 w) (hr : Rv w0 iv cs) (h : Nat) (hh : h ≤ cs.length) :
    ∃ v, (∀ w, (Instr.slice t iv none (some (.int .i64 h)) none).run Tryd.prog w = .ok v w) ∧ ∀ w', Rv w' iv cs → Rv w' v (cs.take h) := by
  obtain ⟨a, cap, rfl, hcap, hn, -⟩ := hr
  refine ⟨Go.sliced a 0 h cap 1, fun w => ?_, fun w' hr' => ?_⟩
  · have := run_slice_h (P := Tryd.prog) (w := w) t a cs.length cap hu .i64 h (by omega) (by omega)
    rw [this, hs]
    simp [Result.andThen]
  · simpa using hr'.sliced hcap hn 0 h (Nat.zero_le _) hh

/-- iv[l:] -/
theorem rule_from (t : TypeId) (hu : Tryd.prog.underlying t = some (.slice (Tryd.prog.elem t))) (hs : ∀ w, (sizeOf (Tryd.prog.elem t)).run Tryd.prog w = .ok 1 w) (hr : Rv w0 iv cs) (l : Nat) (hl : l ≤ cs.length) :
    ∃ v, (∀ w, (Instr.slice t iv (some (.int .i64 l)) none none).run Tryd.prog w = .ok v w) ∧ ∀ w', Rv w' iv cs → Rv w' v (cs.drop l) := by
  obtain ⟨a, cap, rfl, hcap, hn, -⟩ := hr
  refine ⟨Go.sliced a l cs.length cap 1, fun w => ?_, fun w' hr' => ?_⟩
  · have := run_slice_l (P := Tryd.prog) (w := w) t a cs.length cap hu .i64 l (by omega) (by omega)
    rw [this, hs]
    simp [Result.andThen]
  · simpa using hr'.sliced hcap hn l cs.length hl (Nat.le_refl _)

/-- iv[l:h] -/
theorem rule_both (t : TypeId) (hu : Tryd.prog.underlying t = some (.slice (Tryd.prog.elem t))) (hs : ∀ w, (sizeOf (Tryd.prog.elem t)).run Tryd.prog w = .ok 1 w) (hr : Rv w0 iv cs) (l h : Nat) (hl : l ≤ h) (hh : h ≤ cs.length) :
    ∃ v, (∀ w, (Instr.slice t iv (some (.int .i64 l)) (some (.int .i64 h)) none).run Tryd.prog w = .ok v w) ∧ ∀ w', Rv w' iv cs → Rv w' v ((cs.take h).drop l) := by
  obtain ⟨a, cap, rfl, hcap, hn, -⟩ := hr
  refine ⟨Go.sliced a l h cap 1, fun w => ?_, fun w' hr' => hr'.sliced hcap hn l h hl hh⟩
  have := run_slice_lh (P := Tryd.prog) (w := w) t a cs.length cap hu .i64 .i64 l h (by omega) (by omega) (by omega)
  rw [this, hs]
  simp [Result.andThen]

/-- &iv[i] -/
theorem rule_at (t : TypeId) (hu : Tryd.prog.underlying t = some (.slice (Tryd.prog.elem t))) (hs : ∀ w, (sizeOf (Tryd.prog.elem t)).run Tryd.prog w = .ok 1 w) (hr : Rv w0 iv cs) (i : Nat) (hi : i < cs.length) :
    ∃ b off, (∀ w, (Instr.indexAt t iv (.int .i64 i)).run Tryd.prog w = .ok (.pointer (some ⟨b, off, none⟩)) w) ∧ ∀ w', Rv w' iv cs → w'.cell? ⟨b, off, none⟩ = cs[i]? := by
  obtain ⟨a, cap, rfl, hcap, hn, hp⟩ := hr
  obtain ⟨b, off, rfl, -⟩ := hp (by omega)
  refine ⟨b, off + i, fun w => ?_, fun w' hr' => ?_⟩
  · rw [run_indexAt_slice w t _ cs.length cap .i64 i hu, if_pos ⟨by omega, by omega⟩, hs]
    simp [Result.andThen, add_plain]
  · obtain ⟨a2, cap2, hv, -, -, hp2⟩ := hr'
    obtain ⟨rfl, rfl⟩ : some ⟨b, off, none⟩ = a2 ∧ cap = cap2 := by cases hv; exact ⟨rfl, rfl⟩
    obtain ⟨b2, o2, e2, hc2⟩ := hp2 (by omega)
    cases e2
    rw [List.getElem?_eq_getElem hi]
    exact hc2 i _ (List.getElem?_eq_getElem hi)
end

theorem us_take (l : List Nat) (k : Nat) : (usCells l).take k = usCells (l.take k) := by simp [usCells]
theorem us_drop (l : List Nat) (k : Nat) : (usCells l).drop k = usCells (l.drop k) := by simp [usCells]
theorem by_take (l : List UInt8) (k : Nat) : (byteCells l).take k = byteCells (l.take k) := by simp [byteCells]
theorem by_drop (l : List UInt8) (k : Nat) : (byteCells l).drop k = byteCells (l.drop k) := by simp [byteCells]

end Go.Proofs.Qxb6630799aDoor
