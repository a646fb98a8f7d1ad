/-
  DERIVED. THE SLICE ARGUMENT OPENED; THE ARGUMENTS READ AS THEY DID.
-/
import Derived.Test.Qxb6630830aFmtBase
import Derived.Test.Qxb6630830aFmtText
import Derived.LaidMore
import Derived.OpenShut
import Derived.Carry
namespace Go.Proofs.Qxb6630830aFmt
open Go.ChangeShapes Go.WideShapes Go.ChangeAt Go.WideMaps Go.WideElems Go.RowKit
open Go.Lib (byteCells byteCells_length)

theorem cells5 : Tryf.prog.cellsOf 5 = 1 := by kernel_rfl

/-- ARGS, all at once: below the heap's old size nothing has turned. -/
theorem below_trodAll {H : Type} {enc : TypeId × Value → H} {P : Program} (hl : laidOutB P = true) {W W' : World} (hb : Below W.heap.size W W') :
    ∀ {ts : List TypeId} {vs : List Value} {ds : List (DataW H)} {ps : List MemPlace}, (∀ t ∈ ts, P.readableRec t = true ∧ t < P.types.size) →
      DataW.TrodAll enc P W 0 (fun _ => true) true ts vs ds ps → (∀ x ∈ ps, x.block < W.heap.size) →
      DataW.TrodAll enc P W' 0 (fun b => decide (b < W.heap.size)) true ts vs ds ps
  | [], vs, ds, ps, _, h, _ => by
    obtain ⟨rfl, rfl, rfl⟩ := trodAll_nil h
    exact trodAll_mk0
  | t :: ts, vs, ds, ps, hr, h, hlt => by
    obtain ⟨v, vs', d, ds', p, q, rfl, rfl, rfl, h0, h1⟩ := trodAll_cons h
    have hr0 := hr t (by simp)
    exact trodAll_cons_mk (Below.trod hl hr0.1 hr0.2 h0 hb (fun x hx => hlt x (by simp [hx]))) (below_trodAll hl hb (fun t' h' => hr t' (by simp [h'])) h1 (fun x hx => hlt x (by simp [hx])))

section
variable {H : Type} {enc : TypeId × Value → H} {W : World} {base : Nat}

/-- A slice of integers that came in. -/
theorem open_rv {t e : TypeId} {k : IntKind} (ht : Tryf.prog.underlying t = some (.slice e)) (he : Tryf.prog.underlying e = some (.int k)) (hc : Tryf.prog.cellsOf e = 1) {v : Value} {d : DataW H} {ps : List MemPlace}
    (hval : Value.okWide Tryf.prog W .any base t v) (hd : DataW.Trod enc Tryf.prog W 0 (fun _ => true) true t v d ps) :
    ∃ zs : List Int, Rv W v (zs.map (Value.int k)) ∧ zs.length ≤ maxLen ∧ ∀ n ∈ zs, (Lit.int k n).wf = true := by
  obtain ⟨a0, len, cap, rfl⟩ := okWide_slice ht hval
  obtain ⟨fuel, hf⟩ := hd
  rcases open_ints ht he hc hf with ⟨hcs, _⟩ | ⟨a, len', cap', zs, hcs, _, hl, hm, hz, _, hcell, hwz⟩
  · simp [Value.cells] at hcs
    obtain ⟨rfl, rfl, rfl⟩ := hcs
    exact ⟨[], ⟨none, 0, rfl, fun _ => rfl, fun h => absurd h (Nat.lt_irrefl _)⟩, Nat.zero_le _, fun n hn => by cases hn⟩
  · simp [Value.cells] at hcs
    obtain ⟨rfl, rfl, rfl⟩ := hcs
    have hz' : zs.length = cap := by simpa using hz
    have hlen : ((zs.take len).map (Value.int k)).length = len := by simp; omega
    refine ⟨zs.take len, ⟨some a, cap, by rw [hlen], (fun h => by cases h), fun h0 => ?_⟩, by rw [List.length_take]; omega, fun n hn => hwz n (List.mem_of_mem_take hn)⟩
    rw [hlen] at h0
    obtain ⟨b, off, spot⟩ := a
    have hs : spot = none := by
      have := World.cell?_spot (hcell 0 (by omega))
      simpa [Addr.add] using this
    subst hs
    refine ⟨b, off, rfl, fun j u hj => ?_⟩
    rw [List.getElem?_map, List.getElem?_take] at hj
    split at hj
    · rename_i hjl
      have h1 := hcell j (by omega)
      rw [add_plain] at h1
      rw [h1, ← hj, List.getD_eq_getElem?_getD, List.getElem?_eq_getElem (by omega)]
      rfl
    · cases hj

theorem open_bytes {v : Value} {d : DataW H} {ps : List MemPlace} (hval : Value.okWide Tryf.prog W .any base 22 v) (hd : DataW.Trod enc Tryf.prog W 0 (fun _ => true) true 22 v d ps) :
    ∃ l : List UInt8, Rv W v (byteCells l) ∧ l.length ≤ maxLen := by
  obtain ⟨zs, hr, hl, hw⟩ := open_rv Tryf.underlying22 Tryf.underlying5 cells5 hval hd
  refine ⟨zs.map fun z => UInt8.ofNat z.toNat, ?_, by simpa using hl⟩
  have e : byteCells (zs.map fun z => UInt8.ofNat z.toNat) = zs.map (Value.int .u8) := by
    unfold byteCells
    rw [List.map_map]
    apply List.map_congr_left
    intro z hz
    have := bounds_u8 (hw z hz)
    simp only [Function.comp]
    rw [UInt8.toNat_ofNat_of_lt' (by simp [UInt8.size]; omega)]
    congr 1
    omega
  rw [e]
  exact hr

end

/-- The types of the parameters can be read. -/
theorem readable : ∀ t ∈ [3, 22], Tryf.prog.readableRec t = true ∧ t < Tryf.prog.types.size := by
  have h : ([3, 22].all fun t => Tryf.prog.readableRec t && decide (t < Tryf.prog.types.size)) = true := by kernel_rfl
  intro t ht
  have := List.all_eq_true.1 h t ht
  simpa using this

end Go.Proofs.Qxb6630830aFmt
