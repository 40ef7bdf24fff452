/-
  Proved: the contract of impl.value, kind by kind.
  Conditions: each contract's own.
-/
import Derived.Test.YtkibdomfiodilaaDoorValD
namespace Go.Proofs.YtkibdomfiodilaaDoor.val
open Go.RowKit Mem rw
set_option linter.unusedVariables false
attribute [local go_sem] store_float

theorem val_int (s : ByteArray) (n u : Int) (f : Nat) (b : Bool)  (w : World) :
    Calls Tryd.prog 23 #[vA 2 s n u f b] w fun e w' => e = .returned (.tuple #[.agg #[.int .u64 (IntKind.u64.wrap n), .slice none 0 0, .int .u8 2], .bool true]) ∧ Hid (But [] w w') := by
  have hB : Hid (∀ o o', But [] w ((w.alloc o).alloc o')) := Lib.hid fun o o' => ((But.refl [] w).alloc o).alloc o'
  go_enter Tryd.func23, Tryd.ntmps23
  go_wp2_with fail
  refine (new_IntValue n _).mono ?_
  rintro e w1 ⟨rfl, b1⟩
  have r1 : Rw w1 (w.heap.size + 1) [.int .u64 0, .slice none 0 0, .int .u8 0] 48 := b1.out.heapAt (heap_alloc2_new w _ _) (by simp)
  have c0 := Rw.cell r1 0
  have c1 := Rw.cell r1 1
  have c2 := Rw.cell r1 2
  simp only [List.getElem?_cons_zero, List.getElem?_cons_succ] at c0 c1 c2
  have z0 := Rw.fz r1 0
  have z1 := Rw.fz r1 1
  have z2 := Rw.fz r1 2
  have BB := Lib.hid ((hB.out _ _).trans b1.out)
  clear r1 b1
  go_wp2
  refine bodyPost_ret (v := .tuple #[.agg #[.int .u64 (IntKind.u64.wrap n), .slice none 0 0, .int .u8 2], .bool true]) (by simp [results, Tryd.results23, go_sem, c0, c1, c2]) rfl ?_
  exact ⟨rfl, Lib.hid (((BB.out.setCell (Or.inr (by simp)) _).setCell (Or.inr (by simp)) _).setCell (Or.inr (by simp)) _)⟩

theorem val_uint (s : ByteArray) (n u : Int) (f : Nat) (b : Bool)  (w : World) :
    Calls Tryd.prog 23 #[vA 3 s n u f b] w fun e w' => e = .returned (.tuple #[.agg #[.int .u64 u, .slice none 0 0, .int .u8 3], .bool true]) ∧ Hid (But [] w w') := by
  have hB : Hid (∀ o o', But [] w ((w.alloc o).alloc o')) := Lib.hid fun o o' => ((But.refl [] w).alloc o).alloc o'
  go_enter Tryd.func23, Tryd.ntmps23
  go_wp2_with fail
  refine (new_UintValue u _).mono ?_
  rintro e w1 ⟨rfl, b1⟩
  have r1 : Rw w1 (w.heap.size + 1) [.int .u64 0, .slice none 0 0, .int .u8 0] 48 := b1.out.heapAt (heap_alloc2_new w _ _) (by simp)
  have c0 := Rw.cell r1 0
  have c1 := Rw.cell r1 1
  have c2 := Rw.cell r1 2
  simp only [List.getElem?_cons_zero, List.getElem?_cons_succ] at c0 c1 c2
  have z0 := Rw.fz r1 0
  have z1 := Rw.fz r1 1
  have z2 := Rw.fz r1 2
  have BB := Lib.hid ((hB.out _ _).trans b1.out)
  clear r1 b1
  go_wp2
  refine bodyPost_ret (v := .tuple #[.agg #[.int .u64 u, .slice none 0 0, .int .u8 3], .bool true]) (by simp [results, Tryd.results23, go_sem, c0, c1, c2]) rfl ?_
  exact ⟨rfl, Lib.hid (((BB.out.setCell (Or.inr (by simp)) _).setCell (Or.inr (by simp)) _).setCell (Or.inr (by simp)) _)⟩

theorem val_bool (s : ByteArray) (n u : Int) (f : Nat) (b : Bool) (z : Int) (hz : (z = 1 ∧ b = true) ∨ (z = 0 ∧ b = false)) (w : World) :
    Calls Tryd.prog 23 #[vA 5 s n u f b] w fun e w' => e = .returned (.tuple #[.agg #[.int .u64 z, .slice none 0 0, .int .u8 5], .bool true]) ∧ Hid (But [] w w') := by
  have hB : Hid (∀ o o', But [] w ((w.alloc o).alloc o')) := Lib.hid fun o o' => ((But.refl [] w).alloc o).alloc o'
  have HZ := Lib.hid hz
  clear hz
  go_enter Tryd.func23, Tryd.ntmps23
  go_wp2_with fail
  refine (new_BoolValue b z HZ.out _).mono ?_
  rintro e w1 ⟨rfl, b1⟩
  have r1 : Rw w1 (w.heap.size + 1) [.int .u64 0, .slice none 0 0, .int .u8 0] 48 := b1.out.heapAt (heap_alloc2_new w _ _) (by simp)
  have c0 := Rw.cell r1 0
  have c1 := Rw.cell r1 1
  have c2 := Rw.cell r1 2
  simp only [List.getElem?_cons_zero, List.getElem?_cons_succ] at c0 c1 c2
  have z0 := Rw.fz r1 0
  have z1 := Rw.fz r1 1
  have z2 := Rw.fz r1 2
  have BB := Lib.hid ((hB.out _ _).trans b1.out)
  clear r1 b1
  go_wp2
  refine bodyPost_ret (v := .tuple #[.agg #[.int .u64 z, .slice none 0 0, .int .u8 5], .bool true]) (by simp [results, Tryd.results23, go_sem, c0, c1, c2]) rfl ?_
  exact ⟨rfl, Lib.hid (((BB.out.setCell (Or.inr (by simp)) _).setCell (Or.inr (by simp)) _).setCell (Or.inr (by simp)) _)⟩

theorem val_float (s : ByteArray) (n u : Int) (f : Nat) (b : Bool) (hf : f < 2 ^ 64) (hfin : flt.fin f = true) (w : World) :
    Calls Tryd.prog 23 #[vA 4 s n u f b] w fun e w' => e = .returned (.tuple #[.agg #[.int .u64 (f : Int), .slice none 0 0, .int .u8 4], .bool true]) ∧ Hid (But [] w w') := by
  have hB : Hid (∀ o o', But [] w ((w.alloc o).alloc o')) := Lib.hid fun o o' => ((But.refl [] w).alloc o).alloc o'
  have HF := Lib.hid (fun w0 => new_float f hf w0)
  rw [hfin] at HF
  simp only [if_true] at HF
  clear hfin
  go_enter Tryd.func23, Tryd.ntmps23
  go_wp2_with fail
  refine (HF.out _).mono ?_
  rintro e w1 ⟨rfl, b1⟩
  have r1 : Rw w1 (w.heap.size + 1) [.int .u64 0, .slice none 0 0, .int .u8 0] 48 := b1.out.heapAt (heap_alloc2_new w _ _) (by simp)
  have c0 := Rw.cell r1 0
  have c1 := Rw.cell r1 1
  have c2 := Rw.cell r1 2
  simp only [List.getElem?_cons_zero, List.getElem?_cons_succ] at c0 c1 c2
  have z0 := Rw.fz r1 0
  have z1 := Rw.fz r1 1
  have z2 := Rw.fz r1 2
  have BB := Lib.hid ((hB.out _ _).trans b1.out)
  clear r1 b1
  go_wp2
  refine bodyPost_ret (v := .tuple #[.agg #[.int .u64 (f : Int), .slice none 0 0, .int .u8 4], .bool true]) (by simp [results, Tryd.results23, go_sem, c0, c1, c2]) rfl ?_
  exact ⟨rfl, Lib.hid (((BB.out.setCell (Or.inr (by simp)) _).setCell (Or.inr (by simp)) _).setCell (Or.inr (by simp)) _)⟩

theorem val_floatN (s : ByteArray) (n u : Int) (f : Nat) (b : Bool) (hf : f < 2 ^ 64) (hfin : flt.fin f = false) (w : World) :
    Calls Tryd.prog 23 #[vA 4 s n u f b] w fun e w' => e = .returned (.tuple #[.agg #[.int .u64 0, .slice none 0 0, .int .u8 0], .bool false]) ∧ Hid (But [] w w') := by
  have hB : Hid (∀ o o', But [] w ((w.alloc o).alloc o')) := Lib.hid fun o o' => ((But.refl [] w).alloc o).alloc o'
  have HF := Lib.hid (fun w0 => new_float f hf w0)
  rw [hfin] at HF
  simp only [if_false, Bool.false_eq_true] at HF
  clear hfin
  go_enter Tryd.func23, Tryd.ntmps23
  go_wp2_with fail
  refine (HF.out _).mono ?_
  rintro e w1 ⟨rfl, b1⟩
  have r1 : Rw w1 (w.heap.size + 1) [.int .u64 0, .slice none 0 0, .int .u8 0] 48 := b1.out.heapAt (heap_alloc2_new w _ _) (by simp)
  have c0 := Rw.cell r1 0
  have c1 := Rw.cell r1 1
  have c2 := Rw.cell r1 2
  simp only [List.getElem?_cons_zero, List.getElem?_cons_succ] at c0 c1 c2
  have z0 := Rw.fz r1 0
  have z1 := Rw.fz r1 1
  have z2 := Rw.fz r1 2
  have BB := Lib.hid ((hB.out _ _).trans b1.out)
  clear r1 b1
  go_wp2
  refine bodyPost_ret (v := .tuple #[.agg #[.int .u64 0, .slice none 0 0, .int .u8 0], .bool false]) (by simp [results, Tryd.results23, go_sem, c0, c1, c2]) rfl ?_
  exact ⟨rfl, Lib.hid (((BB.out.setCell (Or.inr (by simp)) _).setCell (Or.inr (by simp)) _).setCell (Or.inr (by simp)) _)⟩

theorem val_str (s : ByteArray) (n u : Int) (f : Nat) (b : Bool) (hs : s.size ≤ 2147483647) (hv : utf.V s.data.toList = true) (w : World) (hT : Lib.Utf8Tabs 0 1 w) :
    Calls Tryd.prog 23 #[vA 1 s n u f b] w fun e w' => StrV s e w w' := by
  have hB : Hid (∀ o o', But [] w ((w.alloc o).alloc o')) := Lib.hid fun o o' => ((But.refl [] w).alloc o).alloc o'
  have HT : Hid (∀ o o', Lib.Utf8Tabs 0 1 ((w.alloc o).alloc o')) := Lib.hid fun o o' => tabs_but hT (hB.out _ _) (by simp) (by simp)
  have HV := Lib.hid hv
  clear hT hv
  go_enter Tryd.func23, Tryd.ntmps23
  go_wp2_with fail
  refine (new_str s hs _ (HT.out _ _) HV.out).mono ?_
  rintro e w1 ⟨A, c, rfl, h1⟩
  have b1 := h1.2.1
  have hle := h1.2.2
  simp only [alloc_size] at hle
  have BA := Lib.hid h1.1
  have hlt := h1.1.lt
  have hA : A ≠ w.heap.size + 1 := by omega
  have r1 : Rw w1 (w.heap.size + 1) [.int .u64 0, .slice none 0 0, .int .u8 0] 48 := b1.heapAt (heap_alloc2_new w _ _) (by simp)
  have c0 := Rw.cell r1 0
  have c1 := Rw.cell r1 1
  have c2 := Rw.cell r1 2
  simp only [List.getElem?_cons_zero, List.getElem?_cons_succ] at c0 c1 c2
  have z0 := Rw.fz r1 0
  have z1 := Rw.fz r1 1
  have z2 := Rw.fz r1 2
  have BB := Lib.hid ((hB.out _ _).trans b1)
  clear r1 b1 h1
  go_wp2
  refine bodyPost_ret (v := .tuple #[.agg #[.int .u64 0, .slice (some ⟨A, 0, none⟩) s.size c, .int .u8 0], .bool true]) (by simp [results, Tryd.results23, go_sem, c0, c1, c2]) rfl ?_
  have hbt : But [w.heap.size + 1] w1 (((w1.setCell ⟨w.heap.size + 1, 0, none⟩ (.int .u64 0)).setCell ⟨w.heap.size + 1, 1, none⟩ (.slice (some ⟨A, 0, none⟩) s.size c)).setCell ⟨w.heap.size + 1, 2, none⟩ (.int .u8 0)) := (((But.refl _ w1).setCell (Or.inl (by simp)) _).setCell (Or.inl (by simp)) _).setCell (Or.inl (by simp)) _
  exact ⟨A, c, rfl, BA.out.but hbt (by simpa using hA), BB.out.join hbt (fun _ e => e) (fun x hx hlt => by simp at hx; omega), by omega⟩

theorem val_strN (s : ByteArray) (n u : Int) (f : Nat) (b : Bool) (hs : s.size ≤ 2147483647) (hv : utf.V s.data.toList = false) (w : World) (hT : Lib.Utf8Tabs 0 1 w) :
    Calls Tryd.prog 23 #[vA 1 s n u f b] w fun e w' => e = .returned (.tuple #[.agg #[.int .u64 0, .slice none 0 0, .int .u8 0], .bool false]) ∧ Hid (But [] w w') := by
  have hB : Hid (∀ o o', But [] w ((w.alloc o).alloc o')) := Lib.hid fun o o' => ((But.refl [] w).alloc o).alloc o'
  have HT : Hid (∀ o o', Lib.Utf8Tabs 0 1 ((w.alloc o).alloc o')) := Lib.hid fun o o' => tabs_but hT (hB.out _ _) (by simp) (by simp)
  have HV := Lib.hid hv
  clear hT hv
  go_enter Tryd.func23, Tryd.ntmps23
  go_wp2_with fail
  refine (new_str_bad s hs _ (HT.out _ _) HV.out).mono ?_
  rintro e w1 ⟨rfl, b1⟩
  have r1 : Rw w1 (w.heap.size + 1) [.int .u64 0, .slice none 0 0, .int .u8 0] 48 := b1.out.heapAt (heap_alloc2_new w _ _) (by simp)
  have c0 := Rw.cell r1 0
  have c1 := Rw.cell r1 1
  have c2 := Rw.cell r1 2
  simp only [List.getElem?_cons_zero, List.getElem?_cons_succ] at c0 c1 c2
  have z0 := Rw.fz r1 0
  have z1 := Rw.fz r1 1
  have z2 := Rw.fz r1 2
  have BB := Lib.hid ((hB.out _ _).trans b1.out)
  clear r1 b1
  go_wp2
  refine bodyPost_ret (v := .tuple #[.agg #[.int .u64 0, .slice none 0 0, .int .u8 0], .bool false]) (by simp [results, Tryd.results23, go_sem, c0, c1, c2]) rfl ?_
  exact ⟨rfl, Lib.hid (((BB.out.setCell (Or.inr (by simp)) _).setCell (Or.inr (by simp)) _).setCell (Or.inr (by simp)) _)⟩

theorem val_none (k : Int) (s : ByteArray) (n u : Int) (f : Nat) (b : Bool) (hk : k ≠ 1 ∧ k ≠ 2 ∧ k ≠ 3 ∧ k ≠ 4 ∧ k ≠ 5) (w : World) :
    Calls Tryd.prog 23 #[vA k s n u f b] w fun e w' => e = .returned (.tuple #[.agg #[.int .u64 0, .slice none 0 0, .int .u8 0], .bool false]) ∧ Hid (But [] w w') := by
  have hB : Hid (∀ o o', But [] w ((w.alloc o).alloc o')) := Lib.hid fun o o' => ((But.refl [] w).alloc o).alloc o'
  obtain ⟨k1, k2, k3, k4, k5⟩ := hk
  have e1 : (k == 1) = false := by simpa using k1
  have e2 : (k == 2) = false := by simpa using k2
  have e3 : (k == 3) = false := by simpa using k3
  have e4 : (k == 4) = false := by simpa using k4
  have e5 : (k == 5) = false := by simpa using k5
  go_enter Tryd.func23, Tryd.ntmps23
  go_wp2_with fail
  go_wp2
  refine bodyPost_ret (v := .tuple #[.agg #[.int .u64 0, .slice none 0 0, .int .u8 0], .bool false]) (by simp [results, Tryd.results23, go_sem]) rfl ?_
  exact ⟨rfl, Lib.hid (hB.out _ _)⟩

end Go.Proofs.YtkibdomfiodilaaDoor.val
