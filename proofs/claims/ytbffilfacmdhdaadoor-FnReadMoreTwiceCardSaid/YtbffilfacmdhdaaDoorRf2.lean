/-
  Proved: the contracts of reset, bufio.NewReaderSize, NewReader, NewOpts and its closure, newPieces.
  Conditions: a text of at most 4000 bytes, sizes of at most 100 pieces in memory.
-/
import Derived.Test.YtbffilfacmdhdaaDoorRf1
import Derived.Test.YtbffilfacmdhdaaDoorRe3
namespace Go.Proofs.YtbffilfacmdhdaaDoor.dec
open Go.RowKit Mem rw
set_option linter.unusedVariables false
set_option linter.unusedSimpArgs false

def xrow (B R : Nat) : List Value := [.slice (some ⟨B, 0, none⟩) 4096 4096, .iface 29 (.pointer (some ⟨R, 0, none⟩)), .int .i64 0, .int .i64 0, .nilIface, .int .i64 (-1), .int .i64 (-1)]
theorem reset32 (X B R : Nat) (w : World) (cs : List Value) (h : Rw w X cs 107) (hl : cs.length = 7) :
    Calls Tryd.prog 32 #[.pointer (some ⟨X, 0, none⟩), .slice (some ⟨B, 0, none⟩) 4096 4096, .iface 29 (.pointer (some ⟨R, 0, none⟩))] w fun e w' => e = .returned (.tuple #[]) ∧ Rw w' X (xrow B R) 107 ∧ But [X] w w' := by
  obtain ⟨v0, v1, v2, v3, v4, v5, v6, rfl⟩ : ∃ v0 v1 v2 v3 v4 v5 v6, cs = [v0, v1, v2, v3, v4, v5, v6] := by
    match cs, hl with
    | [v0, v1, v2, v3, v4, v5, v6], _ => exact ⟨v0, v1, v2, v3, v4, v5, v6, rfl⟩
  have c0 := Rw.cell h 0
  have c1 := Rw.cell h 1
  have c2 := Rw.cell h 2
  have c3 := Rw.cell h 3
  have c4 := Rw.cell h 4
  have c5 := Rw.cell h 5
  have c6 := Rw.cell h 6
  have z := Rw.fz h
  simp only [List.getElem?_cons_zero, List.getElem?_cons_succ] at c0 c1 c2 c3 c4 c5 c6
  go_enter Tryd.func32, Tryd.ntmps32
  go_wp2_with fail
  go_end0
  refine ⟨rfl, ?_, ?_⟩
  · exact Rw.set (Rw.set (Rw.set (Rw.set (Rw.set (Rw.set (Rw.set h 0 _) 1 _) 2 _) 3 _) 4 _) 5 _) 6 _
  · have hx : ∀ (j : Nat), (⟨X, j, none⟩ : Addr).block ∈ [X] ∨ w.heap.size ≤ (⟨X, j, none⟩ : Addr).block := fun j => .inl (by simp)
    exact (((((((But.refl _ w).setCell (hx 0) _).setCell (hx 1) _).setCell (hx 2) _).setCell (hx 3) _).setCell (hx 4) _).setCell (hx 5) _).setCell (hx 6) _
/-- A buffered reader just made. -/
structure BNew (w : World) (R X B : Nat) (w' : World) : Prop where
  row : Rw w' X (xrow B R) 107
  buf : BufAt w' B [] 4096
  but : But [] w w'
  x : w.heap.size ≤ X
  xb : X < B
  lt : B < w'.heap.size
set_option maxRecDepth 100000 in
theorem size30 (R : Nat) (w : World) :
    Calls Tryd.prog 30 #[.iface 29 (.pointer (some ⟨R, 0, none⟩)), .int .i64 4096] w fun e w' => ∃ X B, e = .returned (.pointer (some ⟨X, 0, none⟩)) ∧ Hid (BNew w R X B w') := by
  obtain ⟨mc, hmc⟩ : ∃ mc, madeCells #[.int .u8 0] 4096 = mc := ⟨_, rfl⟩
  have hmk : ∀ w, (Instr.makeSlice 35 (.int .i64 4096) (.int .i64 4096)).run Tryd.prog w = .ok (.slice (some ⟨w.heap.size, 0, none⟩) 4096 4096) (w.alloc (.cells mc 5)) := fun w => by rw [← hmc]; exact make_row w 4096 4096 (by omega) (by omega)
  obtain ⟨W1, hW1⟩ : ∃ W1, w.alloc (.cells #[.slice none 0 0, .nilIface, .int .i64 0, .int .i64 0, .nilIface, .int .i64 0, .int .i64 0] 107) = W1 := ⟨_, rfl⟩
  obtain ⟨W2, hW2⟩ : ∃ W2, W1.alloc (.cells mc 5) = W2 := ⟨_, rfl⟩
  have r1 := Rw.new w [.slice none 0 0, .nilIface, .int .i64 0, .int .i64 0, .nilIface, .int .i64 0, .int .i64 0] 107
  have s1 := alloc_size w (.cells #[.slice none 0 0, .nilIface, .int .i64 0, .int .i64 0, .nilIface, .int .i64 0, .int .i64 0] 107)
  have b1 := (But.refl [] w).alloc (.cells #[.slice none 0 0, .nilIface, .int .i64 0, .int .i64 0, .nilIface, .int .i64 0, .int .i64 0] 107)
  rw [hW1] at r1 s1 b1
  have b2 := (But.refl [] W1).alloc (.cells mc 5)
  have s2 := alloc_size W1 (.cells mc 5)
  have n2 := heap_alloc_new W1 (.cells mc 5)
  rw [hW2] at b2 s2 n2
  rw [s1] at s2 n2
  rw [← hmc] at n2
  have hB := made_row W1 W2 4096 (by omega) (by rw [s1]; exact n2)
  rw [s1] at hB
  have HF := Lib.hid (And.intro (Rw.but r1 b2 (by simp)) (And.intro hB (And.intro (b1.trans b2) s2)))
  have HR := Lib.hid (reset32 w.heap.size (w.heap.size + 1) R W2 _ (Rw.but r1 b2 (by simp)) rfl)
  have hta : ∀ w : World, (Instr.typeAssert (.iface 29 (.pointer (some ⟨R, 0, none⟩))) 44 82 true).run Tryd.prog w = .ok (.tuple #[.pointer none, .bool false]) w := fun w => by kernel_rfl
  have hmx : max (4096 : Int) 16 = 4096 := by decide
  clear hmc r1 b1 b2 s2 n2 hB
  go_enter Tryd.func30, Tryd.ntmps30
  go_wp2_with fail
  refine HR.out.mono ?_
  rintro e w2 ⟨rfl, h1, h2⟩
  have HN : Hid (BNew w R w.heap.size (w.heap.size + 1) w2) := Lib.hid (by
    obtain ⟨f1, f2, f3, f4⟩ := HF.out
    exact ⟨h1, f2.but h2 (by simp), f3.join h2 (fun x hx => by cases hx) (fun x hx hlt => by simp at hx; omega), Nat.le_refl _, by omega, by have := h2.size; omega⟩)
  clear h1 h2 HR HF
  go_wp2_with fail
  go_ret
  exact ⟨_, _, rfl, HN⟩
theorem reader26 (R : Nat) (w : World) :
    Calls Tryd.prog 26 #[.iface 29 (.pointer (some ⟨R, 0, none⟩))] w fun e w' => ∃ X B, e = .returned (.pointer (some ⟨X, 0, none⟩)) ∧ Hid (BNew w R X B w') := by
  have HR := Lib.hid (size30 R w)
  go_enter Tryd.func26, Tryd.ntmps26
  go_wp2_with fail
  refine HR.out.mono ?_
  rintro e w2 ⟨X, B, rfl, h1⟩
  go_wp2_with fail
  go_ret
  exact ⟨_, _, rfl, h1⟩
theorem get25 (R : Nat) (w : World) :
    Calls Tryd.prog 25 #[.iface 29 (.pointer (some ⟨R, 0, none⟩))] w fun e w' => ∃ X B, e = .returned (.iface 82 (.pointer (some ⟨X, 0, none⟩))) ∧ Hid (BNew w R X B w') := by
  have HR := Lib.hid (reader26 R w)
  go_enter Tryd.func25, Tryd.ntmps25
  go_wp2_with fail
  refine HR.out.mono ?_
  rintro e w2 ⟨X, B, rfl, h1⟩
  go_wp2_with fail
  go_ret
  exact ⟨_, _, rfl, h1⟩
theorem pool20 (w : World) :
    Calls Tryd.prog 20 #[.int .i64 10000000] w fun e w' => e = .returned (.pointer (some ⟨w.heap.size, 0, none⟩)) ∧ But [] w w' := by
  go_enter Tryd.func20, Tryd.ntmps20
  go_wp2
  go_ret
  exact ⟨rfl, (But.refl _ _).alloc _⟩
theorem rpool21 (w : World) :
    Calls Tryd.prog 21 #[] w fun e w' => (∃ k, e = .returned (.pointer (some ⟨k, 0, none⟩))) ∧ But [] w w' := by
  go_enter Tryd.func21, Tryd.ntmps21
  go_wp2
  go_ret
  exact ⟨⟨_, rfl⟩, (But.refl _ _).alloc _⟩
theorem opts16 (w : World) :
    Calls Tryd.prog 16 #[] w fun e w' => ∃ O, e = .returned (.pointer (some ⟨O, 0, none⟩)) ∧ w'.cell? ⟨O, 3, none⟩ = some (.func (.func 25) #[] #[]) ∧ But [] w w' := by
  have hmf : ∀ (fn : Fn) (first cap : Array Value) (w : World), (Instr.makeFunc fn first cap).run Tryd.prog w = .ok (.func fn first cap) w := fun _ _ _ _ => rfl
  go_enter Tryd.func16, Tryd.ntmps16
  go_wp2_with fail
  refine (pool20 _).mono ?_
  rintro e w1 ⟨rfl, hb1⟩
  have HB1 := Lib.hid hb1
  clear hb1
  go_wp2_with fail
  refine (rpool21 _).mono ?_
  rintro e w2 ⟨⟨k2, rfl⟩, hb2⟩
  have HB2 := Lib.hid hb2
  clear hb2
  go_wp2
  go_ret
  exact ⟨w2.heap.size, rfl, cell_of_row _ _ 3 _ _ _ (heap_alloc_new w2 _), (HB1.out.trans HB2.out).alloc _⟩
end Go.Proofs.YtbffilfacmdhdaaDoor.dec
