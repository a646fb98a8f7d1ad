/-
  DERIVED. THE WALKS OF zzNotice AND CheckTopUp.
-/
import Derived.Test.Qxb6630774aFmtNotice
namespace Go.Proofs.Qxb6630774aFmt
open Go.RowKit Go.Extern.Stop Go.Stop Go.Extern

/-- A notice as a value. -/
def NV (code : ByteArray) (count unit freq : Int) (target method : ByteArray) (amount : Int) (y7 y8 y9 : Option Addr) (tick : Int) (y11 : Option Addr) : Value :=
  .agg #[.string code, .int .i64 count, .int .u8 unit, .int .i64 freq, .string target, .string method, .int .i64 amount, .pointer y7, .pointer y8, .pointer y9, .int .i64 tick, .pointer y11]

theorem bcell {W w1 : World} (hb : Below W.heap.size W w1) : (∀ b o, b < W.heap.size → w1.cell? ⟨b, o, none⟩ = W.cell? ⟨b, o, none⟩) ∧ (∀ b o, b < W.heap.size → w1.frozen? ⟨b, o, none⟩ = W.frozen? ⟨b, o, none⟩) :=
  ⟨fun b o h => hb.cell (p := ⟨b, o, none⟩) h, fun b o h => hb.frozen (p := ⟨b, o, none⟩) h⟩

theorem below_setRow {B : Nat} {a w : World} (h : Below B a w) (g : Nat) (cs : Array Value) (hg : B ≤ g) : Below B a (w.setRow g cs) :=
  h.trans ⟨setRow_os w g cs, setRow_tape w g cs, setRow_output w g cs, Nat.le_of_eq (setRow_size w g cs).symm, fun k hk => setRow_other w g k cs (by omega)⟩

theorem PB.setRow {w : World} {x : Option Addr} {t : Option Bool} (h : PB w x t) (g : Nat) (cs : Array Value) (hg : ∀ a, x = some a → a.block ≠ g) : PB (w.setRow g cs) x t := by
  rcases h with h | ⟨b, o, v, ht, hx, hc⟩
  · exact Or.inl h
  · exact Or.inr ⟨b, o, v, ht, hx, (cell_setRow_other w g cs ⟨b, o, none⟩ (hg _ hx)).trans hc⟩

set_option maxHeartbeats 1000000 in
theorem notice (code : ByteArray) (count unit freq : Int) (target method : ByteArray) (amount : Int) (x7 x8 x9 : Option Addr) (tick : Int) (x11 : Option Addr) (t : Option Bool) (w : World)
    (h7 : PI w x7) (h8 : PI w x8) (h9 : PI w x9) (h11 : PB w x11 t) :
    Calls Tryf.prog 10 #[.string code, .int .i64 count, .int .u8 unit, .int .i64 freq, .string target, .string method, .int .i64 amount, .pointer x7, .pointer x8, .pointer x9, .int .i64 tick, .pointer x11] w
      fun e w' => ∃ y7 y8 y9 y11, e = .returned (NV code count unit freq target method amount y7 y8 y9 tick y11) ∧ PB w' y11 t ∧ Below w.heap.size w w' := by
  have hb0 := Below.refl w.heap.size w
  go_enter Tryf.func10, Tryf.ntmps10
  go_wp2_with fail
  refine (decPtr _ _ (h7.later ((Below.refl _ _).alloc (Nat.le_refl _) _))).mono ?_
  rintro e w1 ⟨y7, rfl, hb1⟩
  have hb1' := ((Below.refl w.heap.size w).alloc (Nat.le_refl _) _).trans (hb1.mono (by simp))
  go_wp2_with fail
  refine (decPtr _ _ (h8.later hb1')).mono ?_
  rintro e w2 ⟨y8, rfl, hb2⟩
  have hb2' := hb1'.trans (hb2.mono hb1'.size)
  go_wp2_with fail
  refine (decPtr _ _ (h9.later hb2')).mono ?_
  rintro e w3 ⟨y9, rfl, hb3⟩
  have hb3' := hb2'.trans (hb3.mono hb2'.size)
  go_wp2_with fail
  refine (copyB _ t _ (h11.later hb3')).mono ?_
  rintro e w4 ⟨y11, rfl, hP, hn, hb4⟩
  have hb4' := hb3'.trans (hb4.mono hb3'.size)
  have z1 : w.heap.size + 1 ≤ w1.heap.size := by have := hb1.size; simpa using this
  have z2 := hb2.size
  have z3 := hb3.size
  have hg : w4.heap[w.heap.size]? = some (.cells #[.string ⟨#[]⟩, .int .i64 0, .int .u8 0, .int .i64 0, .string ⟨#[]⟩, .string ⟨#[]⟩, .int .i64 0, .pointer none, .pointer none, .pointer none, .int .i64 0, .pointer none] 39 (0, 0)) := by
    rw [hb4.block _ (by omega), hb3.block _ (by omega), hb2.block _ (by omega), hb1.block _ (by simp)]
    exact heap_alloc_new _ _
  have hP' := hP.setRow w.heap.size #[.string code, .int .i64 count, .int .u8 unit, .int .i64 freq, .string target, .string method, .int .i64 amount, .pointer y7, .pointer y8, .pointer y9, .int .i64 tick, .pointer y11] (fun a ha => by have := hn a ha; omega)
  have hb5 := below_setRow hb4' w.heap.size #[.string code, .int .i64 count, .int .u8 unit, .int .i64 freq, .string target, .string method, .int .i64 amount, .pointer y7, .pointer y8, .pointer y9, .int .i64 tick, .pointer y11] (Nat.le_refl _)
  clear hb1 hb2 hb3 hb4 hb1' hb2' hb3' z1 z2 z3 hn h7 h8 h9 h11 hb0
  go_wp2_with (refine wpList_store_row rfl 39 _ _ rfl w.heap.size #[.string code, .int .i64 count, .int .u8 unit, .int .i64 freq, .string target, .string method, .int .i64 amount, .pointer y7, .pointer y8, .pointer y9, .int .i64 tick, .pointer y11] rfl rfl 39 _ hg (by kernel_rfl) rfl (by kernel_rfl) ?_)
  refine bodyPost_ret (v := NV code count unit freq target method amount y7 y8 y9 tick y11) ?_ rfl ⟨y7, y8, y9, y11, rfl, hP', hb5⟩
  exact results_cell_row Tryf.results10 _ _ w.heap.size 39 _ (0, 0) _ rfl (setRow_heap w4 w.heap.size _ _ 39 (0, 0) hg) Tryf.underlying39 rfl (by kernel_rfl)

end Go.Proofs.Qxb6630774aFmt
