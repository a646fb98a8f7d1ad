/-
  DERIVED. THE CLOSED FACTS THAT EACH TOLD CARD OF THIS SEAT ASKS; the arguments opened and shut.
-/
import Derived.Test.Qxb6630774aFmtRows
import Derived.Test.Qxb6630774aFmtCards
import Derived.Test.Qxb6630774aFmtNotice
import Derived.ProofKit
import Derived.Stop.JoinedAt
import Derived.Stop.JoinedTold
import Derived.SevenToldRow
import Derived.SizedLaws
import Derived.Carry
import Derived.OpenShut
namespace Go.Proofs.Qxb6630774aFmt
open Go.ChangeShapes Go.WideShapes Go.ChangeAt Go.RowKit Go.Kit
open Go.ChangeMaps (open_string shut_string)
open Go.Extern.Stop Go.Stop Go.Extern

theorem own : ownKnob Tryf.prog.godebug = none := by kernel_rfl
theorem laidOut : laidOutB Tryf.pinned.checked.prog = true := by kernel_rfl
theorem stops : Tryf.pinned.checked.prog.stops = ["fmt.errorf"] := by kernel_rfl
theorem stopKnobs : Tryf.pinned.checked.prog.stopKnobs = [] := by kernel_rfl
theorem quiet (os : Os) : Stop.quiet Tryf.pinned.checked.prog os := by
  intro k hk
  rw [stopKnobs] at hk
  cases hk

theorem cells2 : Tryf.prog.cellsOf 2 = 1 := by kernel_rfl
theorem cells4 : Tryf.prog.cellsOf 4 = 1 := by kernel_rfl

/-- ARGS, all at once: below the heap's old size nothing has turned. -/
theorem below_trodAll {H : Type} {enc : TypeId × Value → H} {P : Program} (hl : laidOutB P = true) {W W' : World} (hb : Below W.heap.size W W') :
    ∀ {ts : List TypeId} {vs : List Value} {ds : List (DataW H)} {ps : List MemPlace}, (∀ t ∈ ts, P.readableRec t = true ∧ t < P.types.size) →
      DataW.TrodAll enc P W 0 (fun _ => true) true ts vs ds ps → (∀ x ∈ ps, x.block < W.heap.size) →
      DataW.TrodAll enc P W' 0 (fun b => decide (b < W.heap.size)) true ts vs ds ps
  | [], vs, ds, ps, _, h, _ => by
    obtain ⟨rfl, rfl, rfl⟩ := trodAll_nil h
    exact trodAll_mk0
  | t :: ts, vs, ds, ps, hr, h, hlt => by
    obtain ⟨v, vs', d, ds', p, q, rfl, rfl, rfl, h0, h1⟩ := trodAll_cons h
    have hr0 := hr t (by simp)
    exact trodAll_cons_mk (Below.trod hl hr0.1 hr0.2 h0 hb (fun x hx => hlt x (by simp [hx]))) (below_trodAll hl hb (fun t' h' => hr t' (by simp [h'])) h1 (fun x hx => hlt x (by simp [hx])))

section
variable {H : Type} {enc : TypeId × Value → H} {W : World} {base : Nat}

theorem open_PI {v : Value} {d : DataW H} {ps : List MemPlace} (hval : Value.okWide Tryf.prog W .any base 22 v) (hd : DataW.Trod enc Tryf.prog W 0 (fun _ => true) true 22 v d ps) : ∃ x, v = .pointer x ∧ PI W x := by
  rcases open_ptr_int Tryf.underlying22 Tryf.underlying2 cells2 hval hd with ⟨rfl, _, _⟩ | ⟨b, off, n, rfl, _, _, hcell, _⟩
  · exact ⟨none, rfl, Or.inl rfl⟩
  · exact ⟨_, rfl, Or.inr ⟨b, off, n, rfl, hcell⟩⟩

theorem open_PB {v : Value} {d : DataW H} {ps : List MemPlace} (hval : Value.okWide Tryf.prog W .any base 23 v) (hd : DataW.Trod enc Tryf.prog W 0 (fun _ => true) true 23 v d ps) : ∃ x t, v = .pointer x ∧ PB W x t := by
  rcases ChangeShapes.open_ptr Tryf.underlying23 (by rw [cells4]; omega) hval hd with ⟨rfl, _, _⟩ | ⟨b, off, cs, y, fuel, rfl, _, _, _, hcell, hy⟩
  · exact ⟨none, none, rfl, Or.inl ⟨rfl, rfl⟩⟩
  · obtain ⟨v, rfl, _⟩ := DataW.trod_bool Tryf.underlying4 hy
    have h0 := hcell 0 (by rw [cells4]; omega)
    exact ⟨_, some v, rfl, Or.inr ⟨b, off, v, rfl, rfl, by simpa using h0⟩⟩
end

/-- The types of the parameters can be read. -/
theorem readable : ∀ t ∈ [9, 3, 5, 3, 9, 9, 2, 22, 22, 22, 2, 23], Tryf.prog.readableRec t = true ∧ t < Tryf.prog.types.size := by
  have h : ([9, 3, 5, 3, 9, 9, 2, 22, 22, 22, 2, 23].all fun t => Tryf.prog.readableRec t && decide (t < Tryf.prog.types.size)) = true := by kernel_rfl
  intro t ht
  have := List.all_eq_true.1 h t ht
  simpa using this

end Go.Proofs.Qxb6630774aFmt
