/-
  DERIVED. THE TOLD CARD OF zzlaws_tender_b1.FnCheckTopUpYearsAgreeWithDays, PROVED.
-/
import Derived.Test.Qxb6630774aFmtBase
import Derived.Test.Qxb6630774aFmtYears
namespace Go.Proofs.Qxb6630774aFmt
open Go.ChangeShapes Go.WideShapes Go.ChangeAt Go.RowKit Go.Kit
open Go.ChangeMaps (open_string shut_string)
open Go.Extern.Stop Go.Stop Go.Extern

set_option maxRecDepth 100000 in
theorem years_lifted (os : Os) (started : os.Started) (H : Type) (enc : TypeId × Value → H) :
    ReturnsInTold none {} Tryf.checked os 4 .any Input.okWide ((OpenSpec.ofChange Rows.fnCheckTopUpYearsAgreeWithDaysSpec).preRow enc Tryf.prog Tryf.f4 Rows.fnCheckTopUpYearsAgreeWithDaysRow.domain false []) (fun F => ((OpenSpec.ofChange Rows.fnCheckTopUpYearsAgreeWithDaysSpec).at F).post enc Tryf.prog Tryf.f4 false true false false) (aloneAtReturn Tryf.prog) nothingAlways := by
  refine returnsInTold_of_row (C := Tryf.checked) (s := OpenSpec.ofChange Rows.fnCheckTopUpYearsAgreeWithDaysSpec) (by kernel_rfl) own started (by kernel_rfl) Tryf.func4
    (OpenSpec.witness_stopped (enc := enc) (C := Tryf.checked) false ⟨#[], #[.string ⟨#[]⟩, .int .i64 1, .int .u8 1, .int .i64 1, .string ⟨#[]⟩, .string ⟨#[]⟩, .int .i64 1, .pointer none, .pointer none, .pointer none, .int .i64 1, .pointer none], []⟩ 8 (by kernel_rfl) (by kernel_rfl) (by kernel_rfl) (by kernel_rfl)) ?_
  intro F W base args ds gs before _ hF hval0 hW _ _ _ _ _
  have hval : ∀ (j : Nat) t v, Tryf.f4.params[j]? = some t → args[j]? = some v → Value.okWide Tryf.prog W .any base t v := hval0
  have hW' := hW
  obtain ⟨p, q, hA0, hV, rfl, hfz, hnd⟩ := hW
  have hA : DataW.TrodAll enc Tryf.prog W 0 (fun _ => true) true Tryf.f4.params.toList args.toList ds p := hA0
  rw [Tryf.params4] at hA hval
  have hAk := hA
  obtain ⟨v0, vs0, d0, ds0, p0, q0, hargs, rfl, rfl, h0, r0⟩ := trodAll_cons hA
  obtain ⟨v1, vs1, d1, ds1, p1, q1, rfl, rfl, rfl, h1, r1⟩ := trodAll_cons r0
  obtain ⟨v2, vs2, d2, ds2, p2, q2, rfl, rfl, rfl, h2, r2⟩ := trodAll_cons r1
  obtain ⟨v3, vs3, d3, ds3, p3, q3, rfl, rfl, rfl, h3, r3⟩ := trodAll_cons r2
  obtain ⟨v4, vs4, d4, ds4, p4, q4, rfl, rfl, rfl, h4, r4⟩ := trodAll_cons r3
  obtain ⟨v5, vs5, d5, ds5, p5, q5, rfl, rfl, rfl, h5, r5⟩ := trodAll_cons r4
  obtain ⟨v6, vs6, d6, ds6, p6, q6, rfl, rfl, rfl, h6, r6⟩ := trodAll_cons r5
  obtain ⟨v7, vs7, d7, ds7, p7, q7, rfl, rfl, rfl, h7, r7⟩ := trodAll_cons r6
  obtain ⟨v8, vs8, d8, ds8, p8, q8, rfl, rfl, rfl, h8, r8⟩ := trodAll_cons r7
  obtain ⟨v9, vs9, d9, ds9, p9, q9, rfl, rfl, rfl, h9, r9⟩ := trodAll_cons r8
  obtain ⟨v10, vs10, d10, ds10, p10, q10, rfl, rfl, rfl, h10, r10⟩ := trodAll_cons r9
  obtain ⟨v11, vs11, d11, ds11, p11, q11, rfl, rfl, rfl, h11, r11⟩ := trodAll_cons r10
  obtain ⟨rfl, rfl, rfl⟩ := trodAll_nil r11
  obtain rfl : args = #[v0, v1, v2, v3, v4, v5, v6, v7, v8, v9, v10, v11] := by cases args; simp_all
  obtain ⟨rfl, rfl⟩ := trodVars_none hV
  obtain ⟨code, rfl, _, _, wc⟩ := open_string Tryf.underlying9 (hval 0 9 v0 rfl rfl) h0
  obtain ⟨count, rfl, _, _, _⟩ := open_int Tryf.underlying3 (hval 1 3 v1 rfl rfl) h1
  obtain ⟨unit, rfl, _, _, _⟩ := open_int Tryf.underlying5 (hval 2 5 v2 rfl rfl) h2
  obtain ⟨freq, rfl, _, _, _⟩ := open_int Tryf.underlying3 (hval 3 3 v3 rfl rfl) h3
  obtain ⟨target, rfl, _, _, wt⟩ := open_string Tryf.underlying9 (hval 4 9 v4 rfl rfl) h4
  obtain ⟨method, rfl, _, _, wm⟩ := open_string Tryf.underlying9 (hval 5 9 v5 rfl rfl) h5
  obtain ⟨amount, rfl, _, _, _⟩ := open_int Tryf.underlying2 (hval 6 2 v6 rfl rfl) h6
  obtain ⟨x7, rfl, k7⟩ := open_PI (hval 7 22 v7 rfl rfl) h7
  obtain ⟨x8, rfl, k8⟩ := open_PI (hval 8 22 v8 rfl rfl) h8
  obtain ⟨x9, rfl, k9⟩ := open_PI (hval 9 22 v9 rfl rfl) h9
  obtain ⟨tick, rfl, _, _, _⟩ := open_int Tryf.underlying2 (hval 10 2 v10 rfl rfl) h10
  obtain ⟨x11, t, rfl, k11⟩ := open_PB (hval 11 23 v11 rfl rfl) h11
  refine (years_any F.told code count unit freq target method amount x7 x8 x9 tick x11 t W wc wt wm hF k7 k8 k9 k11).mono fun e W' ⟨he, hb⟩ => ?_
  subst he
  have hAb := below_trodAll laidOut hb readable hAk (fun x hx => hW'.lt x (by simpa using hx))
  exact ⟨_, rfl, _, _, _, [], _, [], hW', trodAll_mk1 (shut_bool Tryf.underlying4 true), hAb, rfl, hb.frame _, fun h => by cases h⟩

theorem years_card : Rows.FnCheckTopUpYearsAgreeWithDaysToldSaid :=
  Claim7.holds_of_told_any 4 Tryf.f4 "fmt.errorf" [] [] _ _ _ (by kernel_rfl) rfl rfl rfl laidOut (by kernel_rfl) rfl ⟨rfl, rfl, rfl, rfl, rfl, rfl, rfl⟩ rfl rfl (by kernel_rfl) (by kernel_rfl) Tryf.func4 (by kernel_rfl)
    (of_decide_eq_true (by kernel_rfl)) (of_decide_eq_true (by kernel_rfl)) stops.symm rfl stopKnobs.symm (by kernel_rfl)
    (by kernel_rfl) (by kernel_rfl) (by kernel_rfl) (by kernel_rfl) (by kernel_rfl) (by kernel_rfl) (by kernel_rfl) (by kernel_rfl) (by kernel_rfl) rfl (by kernel_rfl) rfl rfl
    rfl rfl
    rfl (by kernel_rfl) (by kernel_rfl) (by kernel_rfl) (by decide) (by kernel_rfl)
    (OpenClaim.moreEntering_of (by kernel_rfl) (by kernel_rfl) (by kernel_rfl) (by kernel_rfl) (by kernel_rfl) (by kernel_rfl) (by kernel_rfl) (by kernel_rfl) (by kernel_rfl) (by kernel_rfl))
    ⟨_, WideRow.started_initial, quiet _⟩
    (fun os started _ H enc _ => years_lifted os started H enc)

end Go.Proofs.Qxb6630774aFmt
