/-
  Proved: the contracts of sRight, (*evalAction).Properties, DoorEvalProperties.
  Conditions: texts of at most 100000 bytes.
-/
import Derived.Test.YtdlimgghcpbkcaaStrB
import Derived.Test.YtdlimgghcpbkcaaShaJ
namespace Go.Proofs.Ytdlimgghcpbkcaa.strs
open Go.RowKit Mem
set_option linter.unusedVariables false

theorem right17nil (w : World) : Calls Try.prog 31 #[.string ⟨#[]⟩, .slice none 0 0] w fun e w' => e = .returned (.bool true) ∧ w = w' := by
  have h := right17 none 0 [] w ⟨.inl rfl⟩ (by simp) (fun s hs => by cases hs)
  simpa using h
set_option maxHeartbeats 400000 in
theorem sright15 (s : ByteArray) (a : Option Addr) (cap : Nat) (ss : List ByteArray) (w : World) (h : Str w a ss) (hn : ss.length ≤ 2147483647) (hz : ∀ s ∈ ss, s.size ≤ 2147483647) (hs : s.size ≤ 2147483647) :
    Calls Try.prog 15 #[.string s, .slice a ss.length cap, .slice none 0 0] w fun e w' => ∃ r, e = .returned (.bool r) ∧ (r = true → s.size ≤ 2000 ∧ ss.length ≤ 20) ∧ w = w' := by
  have HR := Lib.hid (right17 a cap ss w h hn hz)
  have HN := Lib.hid (right17nil w)
  clear h hz
  generalize (decide (ss.length ≤ 50) && ss.all fun s => decide (s.size ≤ 200)) = r at HR
  by_cases h1 : s.size ≤ 2000
  · by_cases h2 : ss.length ≤ 20
    · have d1 : decide ((s.size : Int) ≤ 2000) = true := by simp; omega
      have d2 : decide ((ss.length : Int) ≤ 20) = true := by simp; omega
      have g1 : (s.size : Int) ≤ 2000 := by omega
      have g2 : (ss.length : Int) ≤ 20 := by omega
      cases r
      · go_enter Try.func15, Try.ntmps15
        go_wp2_with (first | (go_at_call 31; with_reducible refine HR.out.mono ?_; rintro e w2 ⟨rfl, rfl⟩) | (go_at_call 31; with_reducible refine HN.out.mono ?_; rintro e w2 ⟨rfl, rfl⟩))
        go_ret
        exact ⟨_, rfl, fun _ => ⟨h1, h2⟩, rfl⟩
      · go_enter Try.func15, Try.ntmps15
        go_wp2_with (first | (go_at_call 31; with_reducible refine HR.out.mono ?_; rintro e w2 ⟨rfl, rfl⟩) | (go_at_call 31; with_reducible refine HN.out.mono ?_; rintro e w2 ⟨rfl, rfl⟩))
        go_ret
        exact ⟨_, rfl, fun _ => ⟨h1, h2⟩, rfl⟩
    · have d1 : decide ((s.size : Int) ≤ 2000) = true := by simp; omega
      have d2 : decide ((ss.length : Int) ≤ 20) = false := by simp; omega
      have g1 : (s.size : Int) ≤ 2000 := by omega
      have g2 : ¬ (ss.length : Int) ≤ 20 := by omega
      go_enter Try.func15, Try.ntmps15
      go_wp2
      go_ret
      exact ⟨rfl, rfl⟩
  · have d1 : decide ((s.size : Int) ≤ 2000) = false := by simp; omega
    have g1 : ¬ (s.size : Int) ≤ 2000 := by omega
    go_enter Try.func15, Try.ntmps15
    go_wp2
    go_ret
    exact ⟨rfl, rfl⟩

set_option maxRecDepth 100000 in
set_option maxHeartbeats 400000 in
theorem props47 (E : Nat) (v : Value) (w : World) (c : w.cell? ⟨E, 2, none⟩ = some v) (a : Option Addr) (n cap : Nat) (hv : v = .slice a n cap) :
    Calls Try.prog 47 #[.pointer (some ⟨E, 0, none⟩)] w fun e w' => e = .returned (.agg #[.slice a n cap, .bool true, .bool false, .bool true]) ∧ Below w.heap.size w w' := by
  subst hv
  have hE := block_lt_of_cell c
  go_enter Try.func47, Try.ntmps47
  go_wp2
  exact ⟨rfl, _, results_cell_row (p := 2) (ty := 65) rfl _ _ w.heap.size 65 #[.slice a n cap, .bool true, .bool false, .bool true] (0, 0) _ rfl (Go.heap_alloc_new w _) Try.underlying65 rfl (by kernel_rfl), rfl, ((But.refl [] w).alloc _).toBelow⟩
set_option maxRecDepth 100000 in
set_option maxHeartbeats 400000 in
theorem door33 (s : ByteArray) (hsz : s.size ≤ 100000) (a : Option Addr) (n cap : Nat) (w : World) :
    Calls Try.prog 33 #[.string s, .slice a n cap] w fun e w' => e = .returned (.agg #[.slice a n cap, .bool true, .bool false, .bool true]) ∧ Below w.heap.size w w' := by
  obtain ⟨W1, hW1⟩ : ∃ W1, w.alloc (.cells #[.slice none 0 0, .bool false, .bool false, .bool false] 65) = W1 := ⟨_, rfl⟩
  have b1 : Below w.heap.size w W1 := hW1 ▸ ((But.refl [] w).alloc _).toBelow
  have z1 : W1.heap.size = w.heap.size + 1 := by rw [← hW1]; exact sha.heap_alloc_size _ _
  have r1 : W1.heap[w.heap.size]? = some (.cells #[.slice none 0 0, .bool false, .bool false, .bool false] 65 (0, 0)) := hW1 ▸ Go.heap_alloc_new w _
  have HC := Lib.hid (sha.new45 s hsz W1)
  have R1 := Lib.hid r1
  have B1 := Lib.hid b1
  have Z1 := Lib.hid z1
  clear r1 b1 z1
  go_enter Try.func33, Try.ntmps33
  go_wp2_with (go_at_call 45; refine HC.out.mono ?_; rintro e w2 ⟨rfl, hb2⟩; (have HB2 := Lib.hid hb2); clear hb2)
  have HP := Lib.hid (props47 w2.heap.size (.slice a n cap) (w2.alloc (.cells #[.string s, .string (sha.hexSum s), .slice a n cap, .slice none 0 0, .nilIface, .nilIface, .bool false] 111)) (by rw [cell_of_row _ _ 2 _ _ _ (Go.heap_alloc_new w2 _)]; rfl) a n cap rfl)
  clear hW1
  refine HP.out.mono ?_
  rintro e w3 ⟨rfl, hb3⟩
  have B3 : Hid (Below w.heap.size w w3) := Lib.hid ((B1.out.trans (HB2.out.mono B1.out.size)).trans ((((But.refl [] w2).alloc _).toBelow.trans (hb3.mono (by rw [sha.heap_alloc_size]; omega))).mono (by have := B1.out.size; have := HB2.out.size; omega)))
  have k1 := sha.Below.at HB2.out (by have := Z1.out; omega) R1.out
  have k2 := (((But.refl [] w2).alloc (.cells #[.string s, .string (sha.hexSum s), .slice a n cap, .slice none 0 0, .nilIface, .nilIface, .bool false] 111)).heapAt k1 (by simp))
  have k3 := sha.Below.at hb3 (Array.getElem?_eq_some_iff.1 k2).1 k2
  have d0 := cell_of_row _ _ 0 _ _ _ k3
  have d1 := cell_of_row _ _ 1 _ _ _ k3
  have d2 := cell_of_row _ _ 2 _ _ _ k3
  have d3 := cell_of_row _ _ 3 _ _ _ k3
  simp only [List.getElem?_toArray, List.getElem?_cons_zero, List.getElem?_cons_succ] at d0 d1 d2 d3
  have f0 := frozen_of_row _ _ 0 _ _ k3
  have f1 := frozen_of_row _ _ 1 _ _ k3
  have f2 := frozen_of_row _ _ 2 _ _ k3
  have f3 := frozen_of_row _ _ 3 _ _ k3
  have K3 := Lib.hid k3
  clear hb3 k1 k2 k3
  go_wp2
  refine ⟨rfl, _, results_cell_row (p := 4) (ty := 65) rfl _ _ w.heap.size 65 #[.slice a n cap, .bool true, .bool false, .bool true] (0, 0) _ rfl (sha.row_setCell (sha.row_setCell (sha.row_setCell (sha.row_setCell (l := [.slice none 0 0, .bool false, .bool false, .bool false]) K3.out 0 _) 1 _) 2 _) 3 _) Try.underlying65 rfl (by kernel_rfl), rfl, ?_⟩
  exact (((B3.out.setCell (Nat.le_refl _) _).setCell (Nat.le_refl _) _).setCell (Nat.le_refl _) _).setCell (Nat.le_refl _) _
end Go.Proofs.Ytdlimgghcpbkcaa.strs
