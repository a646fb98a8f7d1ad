/-
  DERIVED. THE WALK OF FnVerdictStringRoundTrip.
-/
import Derived.Test.Qxb6630830aFmtText
namespace Go.Proofs.Qxb6630830aFmt
open Go.RowKit Go.Extern.Stop Go.Stop Go.Extern
open Go.Lib (byteCells byteCells_length)

theorem row_at (s : ByteArray) (cap j : Nat) (hj : j < s.data.toList.length) : (bytesRow s cap)[j]? = some (.int .u8 (s.data.toList[j].toNat : Int)) := by
  have hj' : j < s.data.size := by simpa using hj
  unfold bytesRow
  rw [Array.getElem?_append_left (by simpa using hj')]
  rw [Array.getElem?_map, Array.getElem?_eq_getElem hj']
  simp

/-- []byte(s). -/
theorem conv_to (w : World) (s : ByteArray) : ∃ tv w1, (convert 9 22 (.string s)).run Tryf.prog w = .ok tv w1 ∧ Below w.heap.size w w1 ∧ Rv w1 tv (byteCells s.data.toList) := by
  have hl : (byteCells s.data.toList).length = s.size := by rw [len_bytes]; simp
  refine ⟨_, _, run_bytes_of_string w 9 22 5 s Tryf.underlying9 Tryf.underlying22 Tryf.underlying5, ((Below.refl _ _).drew).alloc (Nat.le_refl _) _, ?_⟩
  refine ⟨some ⟨w.heap.size, 0, none⟩, grownCap w s.size 0 5, by rw [hl], (fun h => by cases h), fun _ => ⟨w.heap.size, 0, rfl, fun j u hj => ?_⟩⟩
  have hj' : j < s.data.toList.length := by
    have := (List.getElem?_eq_some_iff.1 hj).1
    rwa [len_bytes] at this
  rw [byteCells_at _ j hj'] at hj
  rw [← hj, Nat.zero_add]
  exact (World.cell?_alloc_mark w.drew _ 5 _ j).trans (row_at s _ j hj')

set_option maxHeartbeats 400000 in
theorem trip_no (k : Int) (w : World) :
    Calls Tryf.prog 4 #[.int .i64 k, .bool false] w fun e w' => e = .returned (.bool true) ∧ Below w.heap.size w w' := by
  obtain ⟨tv, w1, hcv, hb1, hR1⟩ := conv_to w noS
  have HB1 : Hid (Below w.heap.size w w1) := hb1
  have HR1 : Hid (Rv w1 tv (byteCells noS.data.toList)) := hR1
  clear hb1 hR1
  go_enter Tryf.func4, Tryf.ntmps4
  go_wp2_with fail
  refine (string0 _).mono ?_
  rintro e w' ⟨rfl, rfl⟩
  go_wp2_with fail
  refine (um_known tv w1.heap.size (.int .i64 k) _ (by simp) (by simp) _ (HR1.out.later ((Below.refl _ _).alloc (Nat.le_refl _) _)) 0 (Or.inl ⟨rfl, rfl⟩)).mono ?_
  rintro e w3 ⟨rfl, hc3, hb3⟩
  have HB3 : Hid (Below w'.heap.size w' w3) := (HB1.out.alloc HB1.out.size _).trans (hb3.mono HB1.out.size)
  clear hb3
  go_wp2
  go_ret
  exact ⟨rfl, HB3.out⟩

set_option maxHeartbeats 400000 in
theorem trip_yes (k : Int) (w : World) :
    Calls Tryf.prog 4 #[.int .i64 k, .bool true] w fun e w' => e = .returned (.bool true) ∧ Below w.heap.size w w' := by
  obtain ⟨tv, w1, hcv, hb1, hR1⟩ := conv_to w yesS
  have HB1 : Hid (Below w.heap.size w w1) := hb1
  have HR1 : Hid (Rv w1 tv (byteCells yesS.data.toList)) := hR1
  clear hb1 hR1
  go_enter Tryf.func4, Tryf.ntmps4
  go_wp2_with fail
  refine (string1 _).mono ?_
  rintro e w' ⟨rfl, rfl⟩
  go_wp2_with fail
  refine (um_known tv w1.heap.size (.int .i64 k) _ (by simp) (by simp) _ (HR1.out.later ((Below.refl _ _).alloc (Nat.le_refl _) _)) 1 (Or.inr ⟨rfl, rfl⟩)).mono ?_
  rintro e w3 ⟨rfl, hc3, hb3⟩
  have HB3 : Hid (Below w'.heap.size w' w3) := (HB1.out.alloc HB1.out.size _).trans (hb3.mono HB1.out.size)
  clear hb3
  go_wp2
  go_ret
  exact ⟨rfl, HB3.out⟩

theorem trip_any (k : Int) (b : Bool) (w : World) :
    Calls Tryf.prog 4 #[.int .i64 k, .bool b] w fun e w' => e = .returned (.bool true) ∧ Below w.heap.size w w' := by
  cases b
  · exact trip_no k w
  · exact trip_yes k w

end Go.Proofs.Qxb6630830aFmt
