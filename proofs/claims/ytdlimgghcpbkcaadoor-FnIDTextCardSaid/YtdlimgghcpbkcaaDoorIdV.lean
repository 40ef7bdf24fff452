/-
  Proved: laws.FnIDText returns true at every pair of 64-bit numbers.
  Conditions: the table of the powers of ten reads as its initialiser lays it.
-/
import Derived.Test.YtdlimgghcpbkcaaDoorIdM
namespace Go.Proofs.YtdlimgghcpbkcaaDoor.ids
open Go.RowKit Mem
set_option linter.unusedVariables false
set_option maxHeartbeats 4000000 in
theorem idWalk (t q : Nat) (ht : t < 18446744073709551616) (hq : q < 18446744073709551616) (w : World) (hpow : Pow w) :
    Calls Tryd.prog 4 #[.agg #[.int .u64 t, .int .u64 q]] w fun e w' => e = .returned (.bool true) ∧ Below w.heap.size w w' := by
  obtain ⟨W1, hW1⟩ : ∃ W1, w.alloc (.cells #[.int .u64 t, .int .u64 q] 31) = W1 := ⟨_, rfl⟩
  have hw1 : Below w.heap.size w W1 := hW1 ▸ ((But.refl [] _).alloc _).toBelow
  have hh : W1.heap[w.heap.size]? = some (.cells #[.int .u64 t, .int .u64 q] 31 (0, 0)) := hW1 ▸ heap_alloc_new w _
  have hlt : w.heap.size < W1.heap.size := (Array.getElem?_eq_some_iff.1 hh).1
  have HP := Lib.hid (hpow.below hw1)
  have HB := Lib.hid hw1
  have HH := Lib.hid hh
  obtain ⟨hl0, hl1⟩ := idText_len t q ht hq
  have hs : (idStr t q).size ≤ 1000 := by simpa [idStr, ByteArray.size] using hl1
  have e1 : (idStr t q).data.toList = idText t q := by simp [idStr]
  clear hpow hw1 hh
  have T8 := Lib.hid (text8 t q ht hq W1)
  go_enter Tryd.func4, Tryd.ntmps4
  have a0 : W1.cell? ⟨w.heap.size, 0, none⟩ = some (.int .u64 t) := cell_of_row _ _ 0 _ _ _ HH.out
  have a1 : W1.cell? ⟨w.heap.size, 1, none⟩ = some (.int .u64 q) := cell_of_row _ _ 1 _ _ _ HH.out
  go_wp2_with fail
  refine T8.out.mono ?_
  rintro e w2 ⟨rfl, hb2⟩
  have b0 := (hb2.cell (p := ⟨w.heap.size, 0, none⟩) hlt).trans a0
  have b1 := (hb2.cell (p := ⟨w.heap.size, 1, none⟩) hlt).trans a1
  have W9 := Lib.hid (write9 t q ht hq w2 (HP.out.below hb2))
  have HB2 := Lib.hid hb2
  have hz2 := hb2.size
  clear hb2 a0 a1
  go_wp2_with fail
  refine W9.out.mono ?_
  rintro e w3 ⟨rfl, hb3⟩
  have c0 := (hb3.cell (p := ⟨w.heap.size, 0, none⟩) (by simp only; omega)).trans b0
  have c1 := (hb3.cell (p := ⟨w.heap.size, 1, none⟩) (by simp only; omega)).trans b1
  have T10 := Lib.hid (text10 t q ht hq w3 ((HP.out.below HB2.out).below hb3))
  have HB3 := Lib.hid hb3
  have hz3 := hb3.size
  clear hb3 b0 b1
  go_wp2_with fail
  refine T10.out.mono ?_
  rintro e w4 ⟨rfl, hb4⟩
  have HB4 := Lib.hid hb4
  have hz4 := hb4.size
  clear hb4
  go_wp2_with fail
  refine (blob11 (idStr t q) hs w4).mono ?_
  rintro e w5 ⟨rfl, hb5⟩
  rw [e1]
  have HB5 := Lib.hid hb5
  have hz5 := hb5.size
  clear hb5
  go_wp2
  go_ret
  refine ⟨by simp, ?_⟩
  exact HB.out.trans (((((HB2.out.mono (by omega)).trans (HB3.out.mono (by omega)))).trans (HB4.out.mono (by omega))).trans (HB5.out.mono (by omega)))
end Go.Proofs.YtdlimgghcpbkcaaDoor.ids
