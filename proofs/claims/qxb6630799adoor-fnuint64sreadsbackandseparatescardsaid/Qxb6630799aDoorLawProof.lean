/-
  DERIVED. THE TIED CARD OF zzlaws_internal_jsonenc_b1.FnUint64sReadsBackAndSeparates, PROVED.
-/
import Derived.Test.Qxb6630799aDoorBase
import Derived.Test.Qxb6630799aDoorLaw
import Derived.Test.Qxb6630799aDoorTie
import Derived.Test.Qxb6630799aDoorCards
namespace Go.Proofs.Qxb6630799aDoor
open Go.ChangeShapes Go.WideShapes Go.ChangeAt Go.RowKit

/-- The types of the parameters can be read. -/
theorem readable2 : ∀ t ∈ [22, 23, 23], Tryd.prog.readableRec t = true ∧ t < Tryd.prog.types.size := by
  have h : ([22, 23, 23].all fun t => Tryd.prog.readableRec t && decide (t < Tryd.prog.types.size)) = true := by kernel_rfl
  intro t ht
  have := List.all_eq_true.1 h t ht
  simpa using this

set_option maxRecDepth 100000 in
theorem law_lifted (os : Os) (started : os.Started) (H : Type) (enc : TypeId × Value → H) :
    ReturnsInHanded {} Tryd.checked os 4 .any (fun w args => (Rows.fnUint64sReadsBackAndSeparatesSpec.pre enc Tryd.prog Tryd.f4 [] false w args ∧ laidMetH Tryd.prog laid3 w) ∧ sizedMet enc Tryd.prog Tryd.f4 (OpenSpec.ofChange Rows.fnUint64sReadsBackAndSeparatesSpec) false w args)
      (Rows.fnUint64sReadsBackAndSeparatesSpec.post enc Tryd.prog Tryd.f4 false true false false) := by
  refine returnsInHanded_of_change_and (C := Tryd.checked) (X := fun w _ => laidMetH Tryd.prog laid3 w) (fun _ _ _ hh h => h.of_heap hh) own started (by kernel_rfl) Tryd.func4
    (ChangeSpec.witness_shaped (enc := enc) (C := Tryd.checked) (os := os) (X := fun w _ => laidMetH Tryd.prog laid3 w) false (World.doorLaid Tryd.prog 400 os) #[.slice none 0 0, .slice none 0 0, .slice none 0 0] 8 rfl (World.shaped_of_RefB (by kernel_rfl) (by kernel_rfl)) (by kernel_rfl) (by kernel_rfl) (by kernel_rfl) (door_met os _)) ?_
  intro W base args ds gs before hval0 hW _ _ hL _
  have hval : ∀ (j : Nat) t v, Tryd.f4.params[j]? = some t → args[j]? = some v → Value.okWide Tryd.prog W .any base t v := hval0
  have hW' := hW
  obtain ⟨p, q, hA0, hV, rfl, hfz, hnd⟩ := hW
  have hA : DataW.TrodAll enc Tryd.prog W 0 (fun _ => true) true Tryd.f4.params.toList args.toList ds p := hA0
  rw [Tryd.params4] at hA hval
  have hAk := hA
  obtain ⟨v0, v1, v2, d0, d1, d2, p0, p1, p2, rfl, rfl, rfl, h0, h1, h2⟩ := trodAll_three hA
  obtain ⟨rfl, rfl⟩ := trodVars_none hV
  obtain ⟨lb, r0, m0⟩ := open_bytes (hval 0 22 v0 rfl rfl) h0
  obtain ⟨ids, r1, m1, hu⟩ := open_us (hval 1 23 v1 rfl rfl) h1
  obtain ⟨lc, r2, m2, hu2⟩ := open_us (hval 2 23 v2 rfl rfl) h2
  refine (back_law v0 v1 v2 lb ids lc W m0 m1 m2 r0 r1 r2 hu hu2 (of_laid hL)).mono fun e W' ⟨he, hb⟩ => ?_
  subst he
  have hAb := below_trodAll laidOut hb readable2 hAk (fun x hx => hW'.lt x (by simpa using hx))
  exact ⟨_, rfl, _, _, _, [], _, [], hW', trodAll_mk1 (shut_bool Tryd.underlying4 true), hAb, rfl, hb.frame _, fun h => by cases h⟩

theorem law_holds : Rows.FnUint64sReadsBackAndSeparatesSaid :=
  OpenClaim.holds_of_wide 4 Tryd.f4 rfl rfl rfl rfl rfl rfl rfl ⟨rfl, rfl, rfl, rfl, rfl⟩ rfl rfl rfl rfl rfl (by kernel_rfl) Tryd.func4 (by kernel_rfl)
    (of_decide_eq_true (by kernel_rfl)) (by unfold Func.isWrapper; rw [if_neg (of_decide_eq_false (by kernel_rfl))]; exact ⟨rfl, rfl⟩)
    (fun os started H enc _ => law_lifted os started H enc)

theorem law_card : Rows.FnUint64sReadsBackAndSeparatesCardSaid :=
  Claim7.holds_tied_plain_at .later [] [.data, .data, .data] true _ false
    law_holds (fun _ h => by cases h) (by kernel_rfl) (fun _ h => by cases h) fnUint64sReadsBackAndSeparates_row_tie rfl ⟨rfl, rfl⟩ (by kernel_rfl) rfl
    (fun f fn hf hfn => by
      obtain rfl : f = 4 := Option.some.inj ((show Tryd.prog.funcNamed Rows.fnUint64sReadsBackAndSeparatesRow.func = some 4 by kernel_rfl).symm.trans hf) |>.symm
      obtain rfl : fn = Tryd.f4 := (Option.some.inj (Tryd.func4.symm.trans hfn)).symm
      exact ⟨by kernel_rfl, fun j t ht => by
        rw [Tryd.params4] at ht
        have hm : t ∈ [22, 23, 23] := by simpa using Array.mem_of_getElem? ht
        have hall : ([22, 23, 23].all fun u => !Tryd.prog.wantsStandIn u) = true := by kernel_rfl
        exact (show Tryd.prog.wantsStandIn t = false by simpa using List.all_eq_true.1 hall t hm)⟩)
    (by kernel_rfl)

end Go.Proofs.Qxb6630799aDoor
