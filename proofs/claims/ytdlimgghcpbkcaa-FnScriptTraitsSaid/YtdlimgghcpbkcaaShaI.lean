/-
  Proved: the contracts of sha1.Sum, radix.NewEvalScript, radix.DoorEvalSum and impl.ScriptSum.
  Conditions: texts of at most 100000 bytes.
-/
import Derived.Test.YtdlimgghcpbkcaaShaX
import Derived.Test.YtdlimgghcpbkcaaShelf
import Derived.Deep.WholeRow
namespace Go.Proofs.Ytdlimgghcpbkcaa.sha
open Go.RowKit Mem Go.Great
set_option linter.unusedVariables false

def dig0 : S5 := ⟨0#32, 0#32, 0#32, 0#32, 0#32⟩
theorem Below.at {B : Nat} {w w' : World} (h : Below B w w') {k : Nat} {o : Obj} (hk : k < B) (ho : w.heap[k]? = some o) : w'.heap[k]? = some o := (h.block k hk).trans ho

set_option maxRecDepth 100000 in
set_option maxHeartbeats 8000000 in
theorem sum60 (l : List UInt8) (g o cap : Nat) (w : World) (hmax : l.length ≤ 100000) (hcap : l.length ≤ cap) (hg : g < w.heap.size) (hc : ∀ j, j < l.length → w.cell? ⟨g, o + j, none⟩ = some (.int .u8 ((l.getD j 0).toNat : Int))) :
    Calls Try.prog 60 #[.slice (some ⟨g, o, none⟩) l.length cap] w fun e w' => e = .returned (.agg (Lib.byteCells (sum l)).toArray) ∧ Below w.heap.size w w' := by
  have HC := Lib.hid hc
  clear hc
  obtain ⟨n, hn⟩ : ∃ n, l.length = n := ⟨_, rfl⟩
  rw [hn] at hmax hcap ⊢
  have HN := Lib.hid hn
  clear hn
  go_enter Try.func60, Try.ntmps60
  apply wp_seq_k; intro K0 hK0
  apply wp_region_lit
  refine wpList_runTo rfl (some 2) rfl (.pointer (some ⟨w.heap.size, 0, none⟩)) (w.alloc (.cells (Lib.byteCells (List.replicate 20 0)).toArray 134)) (by as_aux_lemma => kernel_rfl) ?_
  apply wpList_nil
  refine hK0 _ _ ?_
  clear hK0 K0
  obtain ⟨w1, hw1, B1, R1, z1⟩ : ∃ w1, w.alloc (.cells (Lib.byteCells (List.replicate 20 0)).toArray 134) = w1 ∧ Hid (But [] w w1) ∧ Hid (BRow w1 w.heap.size 134 (List.replicate 20 0)) ∧ w1.heap.size = w.heap.size + 1 :=
    ⟨_, rfl, Lib.hid ((But.refl [] w).alloc _), Lib.hid (Go.heap_alloc_new w _), heap_alloc_size _ _⟩
  rw [hw1]
  clear hw1
  apply wp_seq_k; intro K1 hK1
  apply wp_region_lit
  refine wpList_runTo rfl (some 3) rfl (.pointer (some ⟨w1.heap.size, 0, none⟩)) (w1.alloc (.cells (dl dig0 (List.replicate 64 0) 0 0).toArray 132)) (by as_aux_lemma => kernel_rfl) ?_
  apply wpList_nil
  refine hK1 _ _ ?_
  clear hK1 K1
  obtain ⟨w2, hw2, B2, D2, z2⟩ : ∃ w2, w1.alloc (.cells (dl dig0 (List.replicate 64 0) 0 0).toArray 132) = w2 ∧ Hid (But [] w1 w2) ∧ Hid (Dig w2 (w.heap.size + 1) dig0 (List.replicate 64 0) 0 0) ∧ w2.heap.size = w.heap.size + 2 :=
    ⟨_, rfl, Lib.hid ((But.refl [] w1).alloc _), Lib.hid ⟨by rw [← z1]; exact Go.heap_alloc_new w1 _, rfl⟩, by rw [heap_alloc_size, z1]⟩
  rw [hw2, z1]
  clear hw2
  have C2 : Hid (But [] w w2) := Lib.hid (B1.out.trans B2.out)
  have Q2 : Hid (BRow w2 w.heap.size 134 (List.replicate 20 0)) := Lib.hid (R1.out.old B2.out (by simp))
  clear B1 B2 R1
  have HR := Lib.hid (reset57 (w.heap.size + 1) dig0 (List.replicate 64 0) 0 0 w2 D2.out)
  have hwr : ∀ W, Dig W (w.heap.size + 1) init (List.replicate 64 0) 0 0 → But [w.heap.size + 1] w W → Calls Try.prog 41 #[.pointer (some ⟨w.heap.size + 1, 0, none⟩), .slice (some ⟨g, o, none⟩) n cap] W
      fun e w' => e = .returned (.tuple #[.int .i64 (n : Int), .nilIface]) ∧ ∃ x', Took w' (w.heap.size + 1) l l.length x' ∧ But [w.heap.size + 1] W w' := by
    intro W hd hb
    have h := write41 [] l (w.heap.size + 1) g o cap (List.replicate 64 0) W ⟨hd, fun j hj => by simp at hj⟩ (fun _ => ⟨by omega, Nat.lt_of_lt_of_le hg hb.size, fun j hj => (hb.cell (p := ⟨g, o + j, none⟩) hg (by simp; omega)).trans (HC.out j hj)⟩) (by rw [HN.out]; exact hcap) (by simp [HN.out]; omega)
    rw [HN.out] at h
    exact h
  have HW := Lib.hid hwr
  clear hwr
  have hck : ∀ W x, Took W (w.heap.size + 1) l l.length x → Calls Try.prog 59 #[.pointer (some ⟨w.heap.size + 1, 0, none⟩)] W fun e w' => e = .returned (.agg (Lib.byteCells (sum l)).toArray) ∧ But [w.heap.size + 1] W w' :=
    fun W x h => check59 (w.heap.size + 1) l x W h (by rw [HN.out]; exact hmax)
  obtain ⟨CS, hCS⟩ : ∃ CS, (Lib.byteCells (sum l)).toArray = CS := ⟨_, rfl⟩
  rw [hCS] at hck
  have hsl : (sum l).length = 20 := rfl
  have HSZ : Hid (CS.size = 20) := Lib.hid (by rw [← hCS, List.size_toArray, Lib.byteCells_length]; exact hsl)
  have HALL : Hid (CS.all (·.oneCell') = true) := Lib.hid (by
    rw [← hCS, Array.all_eq_true_iff_forall_mem]
    intro v hv
    exact Lib.byteCells_one _ v (by simpa using hv))
  have HCK := Lib.hid hck
  have HCS := Lib.hid hCS
  clear hck hCS hsl D2
  go_wp2_with (first
    | (go_at_call 57; refine HR.out.mono ?_; rintro e w3 ⟨rfl, hb3, hd3⟩; (have B3 : Hid (But [w.heap.size + 1] w w3) := Lib.hid (C2.out.join hb3 (by simp) (by simp))); (have Q3 := Lib.hid (Q2.out.old hb3 (by simp))); (have HW3 := Lib.hid (HW.out w3 hd3 B3.out)); clear hb3 hd3)
    | (go_at_call 41; refine HW3.out.mono ?_; rintro e w4 ⟨rfl, x4, ht4, hb4⟩; (have B4 : Hid (But [w.heap.size + 1] w w4) := Lib.hid (B3.out.trans hb4)); (have Q4 := Lib.hid (Q3.out.old hb4 (by simp))); (have HK4 := Lib.hid (HCK.out w4 x4 ht4)); clear hb4 ht4)
    | (go_at_call 59; refine HK4.out.mono ?_; rintro e w5 ⟨rfl, hb5⟩; (have B5 : Hid (But [w.heap.size + 1] w w5) := Lib.hid (B4.out.trans hb5)); (have Q5 := Lib.hid (Q4.out.old hb5 (by simp))); clear hb5)
    | refine wpList_store_rowTo rfl 134 (.tmp 2) (.tmp 7) rfl rfl w.heap.size CS rfl rfl 134 (Lib.byteCells (List.replicate 20 0)).toArray Q5.out (by rw [HSZ.out]; kernel_rfl) (by rw [HSZ.out]; rfl) HALL.out ?_)
  refine ⟨rfl, _, results_cell_row (p := 2) (ty := 134) rfl _ _ w.heap.size 134 CS (0, 0) _ rfl (setRow_heap _ _ _ _ _ _ Q5.out) Try.underlying134 rfl (by rw [HSZ.out]; kernel_rfl), by rw [HCS.out], ?_⟩
  exact (but_setRow (B5.out.mono (fun k hk => List.mem_cons_of_mem w.heap.size hk)) (Or.inl (by simp)) _).below w.heap.size (Nat.le_refl _) (by simp)
end Go.Proofs.Ytdlimgghcpbkcaa.sha
