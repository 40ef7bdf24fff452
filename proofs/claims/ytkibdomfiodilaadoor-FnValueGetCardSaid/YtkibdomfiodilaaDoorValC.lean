/-
  Proved: the contracts of lineprotocol's accessors of a Value, and of impl.accessed.
  Conditions: each contract's own.
-/
import Derived.Test.YtkibdomfiodilaaDoorValB
import Derived.Test.YtkibdomfiodilaaDoorRw
namespace Go.Proofs.YtkibdomfiodilaaDoor.val
open Go.RowKit Mem rw
set_option linter.unusedVariables false
attribute [local go_sem] store_float

theorem bad_StringV (n q : Int) (b : Value) (hb : b.oneCell' = true) (hk : kindN q ≠ 1) (w : World) :
    Calls Tryd.prog 37 #[.agg #[.int .u64 n, b, .int .u8 q]] w fun e w' => PanicStr e ∧ Hid (But [] w w') := by
  have hB : Hid (∀ o, But [] w (w.alloc o)) := Lib.hid fun o => (But.refl [] w).alloc o
  have HK := Lib.hid hk
  clear hk
  go_enter Tryd.func37, Tryd.ntmps37
  go_wp2_with fail
  refine (must_bad n q 1 b hb HK.out _).mono ?_
  rintro e w1 ⟨⟨s, rfl⟩, b1⟩
  go_wp2
  exact ⟨rfl, ⟨_, rfl⟩, Lib.hid ((hB.out _).trans b1.out)⟩
theorem bad_IntV (n q : Int) (b : Value) (hb : b.oneCell' = true) (hk : kindN q ≠ 2) (w : World) :
    Calls Tryd.prog 38 #[.agg #[.int .u64 n, b, .int .u8 q]] w fun e w' => PanicStr e ∧ Hid (But [] w w') := by
  have hB : Hid (∀ o, But [] w (w.alloc o)) := Lib.hid fun o => (But.refl [] w).alloc o
  have HK := Lib.hid hk
  clear hk
  go_enter Tryd.func38, Tryd.ntmps38
  go_wp2_with fail
  refine (must_bad n q 2 b hb HK.out _).mono ?_
  rintro e w1 ⟨⟨s, rfl⟩, b1⟩
  go_wp2
  exact ⟨rfl, ⟨_, rfl⟩, Lib.hid ((hB.out _).trans b1.out)⟩
theorem bad_UintV (n q : Int) (b : Value) (hb : b.oneCell' = true) (hk : kindN q ≠ 3) (w : World) :
    Calls Tryd.prog 39 #[.agg #[.int .u64 n, b, .int .u8 q]] w fun e w' => PanicStr e ∧ Hid (But [] w w') := by
  have hB : Hid (∀ o, But [] w (w.alloc o)) := Lib.hid fun o => (But.refl [] w).alloc o
  have HK := Lib.hid hk
  clear hk
  go_enter Tryd.func39, Tryd.ntmps39
  go_wp2_with fail
  refine (must_bad n q 3 b hb HK.out _).mono ?_
  rintro e w1 ⟨⟨s, rfl⟩, b1⟩
  go_wp2
  exact ⟨rfl, ⟨_, rfl⟩, Lib.hid ((hB.out _).trans b1.out)⟩
theorem bad_FloatV (n q : Int) (b : Value) (hb : b.oneCell' = true) (hk : kindN q ≠ 4) (w : World) :
    Calls Tryd.prog 40 #[.agg #[.int .u64 n, b, .int .u8 q]] w fun e w' => PanicStr e ∧ Hid (But [] w w') := by
  have hB : Hid (∀ o, But [] w (w.alloc o)) := Lib.hid fun o => (But.refl [] w).alloc o
  have HK := Lib.hid hk
  clear hk
  go_enter Tryd.func40, Tryd.ntmps40
  go_wp2_with fail
  refine (must_bad n q 4 b hb HK.out _).mono ?_
  rintro e w1 ⟨⟨s, rfl⟩, b1⟩
  go_wp2
  exact ⟨rfl, ⟨_, rfl⟩, Lib.hid ((hB.out _).trans b1.out)⟩
theorem bad_BoolV (n q : Int) (b : Value) (hb : b.oneCell' = true) (hk : kindN q ≠ 5) (w : World) :
    Calls Tryd.prog 41 #[.agg #[.int .u64 n, b, .int .u8 q]] w fun e w' => PanicStr e ∧ Hid (But [] w w') := by
  have hB : Hid (∀ o, But [] w (w.alloc o)) := Lib.hid fun o => (But.refl [] w).alloc o
  have HK := Lib.hid hk
  clear hk
  go_enter Tryd.func41, Tryd.ntmps41
  go_wp2_with fail
  refine (must_bad n q 5 b hb HK.out _).mono ?_
  rintro e w1 ⟨⟨s, rfl⟩, b1⟩
  go_wp2
  exact ⟨rfl, ⟨_, rfl⟩, Lib.hid ((hB.out _).trans b1.out)⟩
theorem ok_IntV (n : Int) (hn : -9223372036854775808 ≤ n ∧ n ≤ 9223372036854775807) (w : World) :
    Calls Tryd.prog 38 #[.agg #[.int .u64 (IntKind.u64.wrap n), .slice none 0 0, .int .u8 2]] w fun e w' => e = .returned (.int .i64 n) ∧ Hid (But [] w w') := by
  have hB : Hid (∀ o, But [] w (w.alloc o)) := Lib.hid fun o => (But.refl [] w).alloc o
  obtain ⟨h1, h2⟩ := hn
  have hw : IntKind.i64.wrap (IntKind.u64.wrap n) = n := by rw [IntKind.wrap_u64, IntKind.wrap_i64]; omega
  obtain ⟨z, hz⟩ : ∃ z, IntKind.u64.wrap n = z := ⟨_, rfl⟩
  rw [hz] at hw ⊢
  clear hz
  go_enter Tryd.func38, Tryd.ntmps38
  go_wp2_with fail
  refine (must_ok _ 2 2 _ rfl (by decide) _).mono ?_
  rintro e w1 ⟨rfl, b1⟩
  have r1 := b1.out.heapAt (heap_alloc_new w _) (by simp)
  have c0 := cell_of_row _ _ 0 _ _ _ r1
  simp only [List.getElem?_toArray, List.getElem?_cons_zero] at c0
  have B1 := Lib.hid ((hB.out _).trans b1.out)
  clear r1 b1
  go_wp2
  go_ret
  exact ⟨rfl, B1⟩
theorem ok_UintV (n : Int) (w : World) :
    Calls Tryd.prog 39 #[.agg #[.int .u64 n, .slice none 0 0, .int .u8 3]] w fun e w' => e = .returned (.int .u64 n) ∧ Hid (But [] w w') := by
  have hB : Hid (∀ o, But [] w (w.alloc o)) := Lib.hid fun o => (But.refl [] w).alloc o
  go_enter Tryd.func39, Tryd.ntmps39
  go_wp2_with fail
  refine (must_ok _ 3 3 _ rfl (by decide) _).mono ?_
  rintro e w1 ⟨rfl, b1⟩
  have r1 := b1.out.heapAt (heap_alloc_new w _) (by simp)
  have c0 := cell_of_row _ _ 0 _ _ _ r1
  simp only [List.getElem?_toArray, List.getElem?_cons_zero] at c0
  have B1 := Lib.hid ((hB.out _).trans b1.out)
  clear r1 b1
  go_wp2
  go_ret
  exact ⟨rfl, B1⟩
theorem ok_FloatV (n : Nat) (w : World) :
    Calls Tryd.prog 40 #[.agg #[.int .u64 (n : Int), .slice none 0 0, .int .u8 4]] w fun e w' => e = .returned (.float .f64 n) ∧ Hid (But [] w w') := by
  have hB : Hid (∀ o, But [] w (w.alloc o)) := Lib.hid fun o => (But.refl [] w).alloc o
  have hf := run_frombits n
  go_enter Tryd.func40, Tryd.ntmps40
  go_wp2_with fail
  refine (must_ok _ 4 4 _ rfl (by decide) _).mono ?_
  rintro e w1 ⟨rfl, b1⟩
  have r1 := b1.out.heapAt (heap_alloc_new w _) (by simp)
  have c0 := cell_of_row _ _ 0 _ _ _ r1
  simp only [List.getElem?_toArray, List.getElem?_cons_zero] at c0
  have B1 := Lib.hid ((hB.out _).trans b1.out)
  clear r1 b1
  go_wp2
  go_ret
  exact ⟨rfl, B1⟩
theorem ok_BoolV (n : Int) (b : Bool) (hn : (n = 1 ∧ b = true) ∨ (n = 0 ∧ b = false)) (w : World) :
    Calls Tryd.prog 41 #[.agg #[.int .u64 n, .slice none 0 0, .int .u8 5]] w fun e w' => e = .returned (.bool b) ∧ Hid (But [] w w') := by
  have hB : Hid (∀ o, But [] w (w.alloc o)) := Lib.hid fun o => (But.refl [] w).alloc o
  obtain ⟨rfl, rfl⟩ | ⟨rfl, rfl⟩ := hn
  all_goals
    go_enter Tryd.func41, Tryd.ntmps41
    go_wp2_with fail
    refine (must_ok _ 5 5 _ rfl (by decide) _).mono ?_
    rintro e w1 ⟨rfl, b1⟩
    have r1 := b1.out.heapAt (heap_alloc_new w _) (by simp)
    have c0 := cell_of_row _ _ 0 _ _ _ r1
    simp only [List.getElem?_toArray, List.getElem?_cons_zero] at c0
    have B1 := Lib.hid ((hB.out _).trans b1.out)
    clear r1 b1
    go_wp2
    go_ret
    exact ⟨rfl, B1⟩
theorem ok_StringV (a : Option Addr) (c : Nat) (s : ByteArray) (w : World) (hs : ∀ w', But [] w w' → (convert 45 9 (.slice a s.size c)).run Tryd.prog w' = .ok (.string s) w') :
    Calls Tryd.prog 37 #[.agg #[.int .u64 0, .slice a s.size c, .int .u8 0]] w fun e w' => e = .returned (.string s) ∧ Hid (But [] w w') := by
  have hB : Hid (∀ o, But [] w (w.alloc o)) := Lib.hid fun o => (But.refl [] w).alloc o
  have HS := Lib.hid hs
  clear hs
  go_enter Tryd.func37, Tryd.ntmps37
  go_wp2_with fail
  refine (must_ok _ 0 1 _ rfl (by decide) _).mono ?_
  rintro e w1 ⟨rfl, b1⟩
  have r1 := b1.out.heapAt (heap_alloc_new w _) (by simp)
  have c0 := cell_of_row _ _ 1 _ _ _ r1
  simp only [List.getElem?_toArray, List.getElem?_cons_zero, List.getElem?_cons_succ] at c0
  have hcv := HS.out _ ((hB.out _).trans b1.out)
  have B1 := Lib.hid ((hB.out _).trans b1.out)
  clear r1 b1
  go_wp2
  go_ret
  exact ⟨rfl, B1⟩

theorem acc_bad (kind : Int) (hk : 1 ≤ kind ∧ kind ≤ 5) (n q : Int) (b : Value) (hb : b.oneCell' = true) (hq : kindN q ≠ kind) (w : World) :
    Calls Tryd.prog 24 #[.agg #[.int .u64 n, b, .int .u8 q], .int .i64 kind] w fun e w' => PanicStr e ∧ Hid (But [] w w') := by
  have hB : Hid (∀ o o', But [] w ((w.alloc o).alloc o')) := Lib.hid fun o o' => ((But.refl [] w).alloc o).alloc o'
  have HQ := Lib.hid hq
  clear hq
  obtain rfl | rfl | rfl | rfl | rfl : kind = 1 ∨ kind = 2 ∨ kind = 3 ∨ kind = 4 ∨ kind = 5 := by omega
  · go_enter Tryd.func24, Tryd.ntmps24
    go_wp2_with fail
    refine (bad_StringV n q b hb HQ.out _).mono ?_
    rintro e w1 ⟨⟨s, rfl⟩, b1⟩
    go_wp2
    exact ⟨rfl, ⟨_, rfl⟩, Lib.hid ((hB.out _ _).trans b1.out)⟩
  · go_enter Tryd.func24, Tryd.ntmps24
    go_wp2_with fail
    refine (bad_IntV n q b hb HQ.out _).mono ?_
    rintro e w1 ⟨⟨s, rfl⟩, b1⟩
    go_wp2
    exact ⟨rfl, ⟨_, rfl⟩, Lib.hid ((hB.out _ _).trans b1.out)⟩
  · go_enter Tryd.func24, Tryd.ntmps24
    go_wp2_with fail
    refine (bad_UintV n q b hb HQ.out _).mono ?_
    rintro e w1 ⟨⟨s, rfl⟩, b1⟩
    go_wp2
    exact ⟨rfl, ⟨_, rfl⟩, Lib.hid ((hB.out _ _).trans b1.out)⟩
  · go_enter Tryd.func24, Tryd.ntmps24
    go_wp2_with fail
    refine (bad_FloatV n q b hb HQ.out _).mono ?_
    rintro e w1 ⟨⟨s, rfl⟩, b1⟩
    go_wp2
    exact ⟨rfl, ⟨_, rfl⟩, Lib.hid ((hB.out _ _).trans b1.out)⟩
  · go_enter Tryd.func24, Tryd.ntmps24
    go_wp2_with fail
    refine (bad_BoolV n q b hb HQ.out _).mono ?_
    rintro e w1 ⟨⟨s, rfl⟩, b1⟩
    go_wp2
    exact ⟨rfl, ⟨_, rfl⟩, Lib.hid ((hB.out _ _).trans b1.out)⟩

theorem acc_IntV (n : Int) (hn : -9223372036854775808 ≤ n ∧ n ≤ 9223372036854775807) (w : World) :
    Calls Tryd.prog 24 #[.agg #[.int .u64 (IntKind.u64.wrap n), .slice none 0 0, .int .u8 2], .int .i64 2] w fun e w' => e = .returned (vA 2 ByteArray.empty n 0 0 false) ∧ Hid (But [] w w') := by
  have hB : Hid (∀ o o', But [] w ((w.alloc o).alloc o')) := Lib.hid fun o o' => ((But.refl [] w).alloc o).alloc o'
  go_enter Tryd.func24, Tryd.ntmps24
  go_wp2_with fail
  refine (ok_IntV n hn _).mono ?_
  rintro e w1 ⟨rfl, b1⟩
  have r1 : Rw w1 (w.heap.size + 1) [.int .i64 0, .string ⟨#[]⟩, .int .i64 0, .int .u64 0, .float .f64 0, .bool false] 25 := b1.out.heapAt (heap_alloc2_new w _ _) (by simp)
  have c0 := Rw.cell r1 0
  have c1 := Rw.cell r1 1
  have c2 := Rw.cell r1 2
  have c3 := Rw.cell r1 3
  have c4 := Rw.cell r1 4
  have c5 := Rw.cell r1 5
  simp only [List.getElem?_cons_zero, List.getElem?_cons_succ] at c0 c1 c2 c3 c4 c5
  have z0 := Rw.fz r1 0
  have z1 := Rw.fz r1 1
  have z2 := Rw.fz r1 2
  have z3 := Rw.fz r1 3
  have z4 := Rw.fz r1 4
  have z5 := Rw.fz r1 5
  have R1 := Lib.hid r1
  have B1 := Lib.hid (((hB.out _ _).trans b1.out))
  clear r1 b1
  go_wp2
  have r2 := Rw.set (Rw.set (Rw.set (Rw.set (Rw.set (Rw.set R1.out 0 (.int .i64 2)) 1 (.string ⟨#[]⟩)) 2 (.int .i64 n)) 3 (.int .u64 0)) 4 (.float .f64 0)) 5 (.bool false)
  refine ⟨rfl, _, results_cell_row (p := 4) (ty := 25) rfl _ _ (w.heap.size + 1) 25 _ (0, 0) _ rfl r2 Tryd.underlying25 rfl (by kernel_rfl), rfl, Lib.hid ?_⟩
  exact (((((B1.out.setCell (Or.inr (by simp)) _).setCell (Or.inr (by simp)) _).setCell (Or.inr (by simp)) _).setCell (Or.inr (by simp)) _).setCell (Or.inr (by simp)) _).setCell (Or.inr (by simp)) _

theorem acc_UintV (n : Int) (w : World) :
    Calls Tryd.prog 24 #[.agg #[.int .u64 n, .slice none 0 0, .int .u8 3], .int .i64 3] w fun e w' => e = .returned (vA 3 ByteArray.empty 0 n 0 false) ∧ Hid (But [] w w') := by
  have hB : Hid (∀ o o', But [] w ((w.alloc o).alloc o')) := Lib.hid fun o o' => ((But.refl [] w).alloc o).alloc o'
  go_enter Tryd.func24, Tryd.ntmps24
  go_wp2_with fail
  refine (ok_UintV n _).mono ?_
  rintro e w1 ⟨rfl, b1⟩
  have r1 : Rw w1 (w.heap.size + 1) [.int .i64 0, .string ⟨#[]⟩, .int .i64 0, .int .u64 0, .float .f64 0, .bool false] 25 := b1.out.heapAt (heap_alloc2_new w _ _) (by simp)
  have c0 := Rw.cell r1 0
  have c1 := Rw.cell r1 1
  have c2 := Rw.cell r1 2
  have c3 := Rw.cell r1 3
  have c4 := Rw.cell r1 4
  have c5 := Rw.cell r1 5
  simp only [List.getElem?_cons_zero, List.getElem?_cons_succ] at c0 c1 c2 c3 c4 c5
  have z0 := Rw.fz r1 0
  have z1 := Rw.fz r1 1
  have z2 := Rw.fz r1 2
  have z3 := Rw.fz r1 3
  have z4 := Rw.fz r1 4
  have z5 := Rw.fz r1 5
  have R1 := Lib.hid r1
  have B1 := Lib.hid (((hB.out _ _).trans b1.out))
  clear r1 b1
  go_wp2
  have r2 := Rw.set (Rw.set (Rw.set (Rw.set (Rw.set (Rw.set R1.out 0 (.int .i64 3)) 1 (.string ⟨#[]⟩)) 2 (.int .i64 0)) 3 (.int .u64 n)) 4 (.float .f64 0)) 5 (.bool false)
  refine ⟨rfl, _, results_cell_row (p := 4) (ty := 25) rfl _ _ (w.heap.size + 1) 25 _ (0, 0) _ rfl r2 Tryd.underlying25 rfl (by kernel_rfl), rfl, Lib.hid ?_⟩
  exact (((((B1.out.setCell (Or.inr (by simp)) _).setCell (Or.inr (by simp)) _).setCell (Or.inr (by simp)) _).setCell (Or.inr (by simp)) _).setCell (Or.inr (by simp)) _).setCell (Or.inr (by simp)) _

theorem acc_FloatV (n : Nat) (w : World) :
    Calls Tryd.prog 24 #[.agg #[.int .u64 (n : Int), .slice none 0 0, .int .u8 4], .int .i64 4] w fun e w' => e = .returned (vA 4 ByteArray.empty 0 0 n false) ∧ Hid (But [] w w') := by
  have hB : Hid (∀ o o', But [] w ((w.alloc o).alloc o')) := Lib.hid fun o o' => ((But.refl [] w).alloc o).alloc o'
  go_enter Tryd.func24, Tryd.ntmps24
  go_wp2_with fail
  refine (ok_FloatV n _).mono ?_
  rintro e w1 ⟨rfl, b1⟩
  have r1 : Rw w1 (w.heap.size + 1) [.int .i64 0, .string ⟨#[]⟩, .int .i64 0, .int .u64 0, .float .f64 0, .bool false] 25 := b1.out.heapAt (heap_alloc2_new w _ _) (by simp)
  have c0 := Rw.cell r1 0
  have c1 := Rw.cell r1 1
  have c2 := Rw.cell r1 2
  have c3 := Rw.cell r1 3
  have c4 := Rw.cell r1 4
  have c5 := Rw.cell r1 5
  simp only [List.getElem?_cons_zero, List.getElem?_cons_succ] at c0 c1 c2 c3 c4 c5
  have z0 := Rw.fz r1 0
  have z1 := Rw.fz r1 1
  have z2 := Rw.fz r1 2
  have z3 := Rw.fz r1 3
  have z4 := Rw.fz r1 4
  have z5 := Rw.fz r1 5
  have R1 := Lib.hid r1
  have B1 := Lib.hid (((hB.out _ _).trans b1.out))
  clear r1 b1
  go_wp2
  have r2 := Rw.set (Rw.set (Rw.set (Rw.set (Rw.set (Rw.set R1.out 0 (.int .i64 4)) 1 (.string ⟨#[]⟩)) 2 (.int .i64 0)) 3 (.int .u64 0)) 4 (.float .f64 n)) 5 (.bool false)
  refine ⟨rfl, _, results_cell_row (p := 4) (ty := 25) rfl _ _ (w.heap.size + 1) 25 _ (0, 0) _ rfl r2 Tryd.underlying25 rfl (by kernel_rfl), rfl, Lib.hid ?_⟩
  exact (((((B1.out.setCell (Or.inr (by simp)) _).setCell (Or.inr (by simp)) _).setCell (Or.inr (by simp)) _).setCell (Or.inr (by simp)) _).setCell (Or.inr (by simp)) _).setCell (Or.inr (by simp)) _

theorem acc_BoolV (n : Int) (b : Bool) (hn : (n = 1 ∧ b = true) ∨ (n = 0 ∧ b = false)) (w : World) :
    Calls Tryd.prog 24 #[.agg #[.int .u64 n, .slice none 0 0, .int .u8 5], .int .i64 5] w fun e w' => e = .returned (vA 5 ByteArray.empty 0 0 0 b) ∧ Hid (But [] w w') := by
  have hB : Hid (∀ o o', But [] w ((w.alloc o).alloc o')) := Lib.hid fun o o' => ((But.refl [] w).alloc o).alloc o'
  have HN := Lib.hid hn
  clear hn
  go_enter Tryd.func24, Tryd.ntmps24
  go_wp2_with fail
  refine (ok_BoolV n b HN.out _).mono ?_
  rintro e w1 ⟨rfl, b1⟩
  have r1 : Rw w1 (w.heap.size + 1) [.int .i64 0, .string ⟨#[]⟩, .int .i64 0, .int .u64 0, .float .f64 0, .bool false] 25 := b1.out.heapAt (heap_alloc2_new w _ _) (by simp)
  have c0 := Rw.cell r1 0
  have c1 := Rw.cell r1 1
  have c2 := Rw.cell r1 2
  have c3 := Rw.cell r1 3
  have c4 := Rw.cell r1 4
  have c5 := Rw.cell r1 5
  simp only [List.getElem?_cons_zero, List.getElem?_cons_succ] at c0 c1 c2 c3 c4 c5
  have z0 := Rw.fz r1 0
  have z1 := Rw.fz r1 1
  have z2 := Rw.fz r1 2
  have z3 := Rw.fz r1 3
  have z4 := Rw.fz r1 4
  have z5 := Rw.fz r1 5
  have R1 := Lib.hid r1
  have B1 := Lib.hid (((hB.out _ _).trans b1.out))
  clear r1 b1
  go_wp2
  have r2 := Rw.set (Rw.set (Rw.set (Rw.set (Rw.set (Rw.set R1.out 0 (.int .i64 5)) 1 (.string ⟨#[]⟩)) 2 (.int .i64 0)) 3 (.int .u64 0)) 4 (.float .f64 0)) 5 (.bool b)
  refine ⟨rfl, _, results_cell_row (p := 4) (ty := 25) rfl _ _ (w.heap.size + 1) 25 _ (0, 0) _ rfl r2 Tryd.underlying25 rfl (by kernel_rfl), rfl, Lib.hid ?_⟩
  exact (((((B1.out.setCell (Or.inr (by simp)) _).setCell (Or.inr (by simp)) _).setCell (Or.inr (by simp)) _).setCell (Or.inr (by simp)) _).setCell (Or.inr (by simp)) _).setCell (Or.inr (by simp)) _
theorem acc_StringV (a : Option Addr) (c : Nat) (s : ByteArray) (w : World) (hs : ∀ w', But [] w w' → (convert 45 9 (.slice a s.size c)).run Tryd.prog w' = .ok (.string s) w') :
    Calls Tryd.prog 24 #[.agg #[.int .u64 0, .slice a s.size c, .int .u8 0], .int .i64 1] w fun e w' => e = .returned (vA 1 s 0 0 0 false) ∧ Hid (But [] w w') := by
  have hB : Hid (∀ o o', But [] w ((w.alloc o).alloc o')) := Lib.hid fun o o' => ((But.refl [] w).alloc o).alloc o'
  have HS := Lib.hid hs
  clear hs
  go_enter Tryd.func24, Tryd.ntmps24
  go_wp2_with fail
  refine (ok_StringV a c s _ (fun w' hb => HS.out w' ((hB.out _ _).trans hb))).mono ?_
  rintro e w1 ⟨rfl, b1⟩
  have r1 : Rw w1 (w.heap.size + 1) [.int .i64 0, .string ⟨#[]⟩, .int .i64 0, .int .u64 0, .float .f64 0, .bool false] 25 := b1.out.heapAt (heap_alloc2_new w _ _) (by simp)
  have c0 := Rw.cell r1 0
  have c1 := Rw.cell r1 1
  have c2 := Rw.cell r1 2
  have c3 := Rw.cell r1 3
  have c4 := Rw.cell r1 4
  have c5 := Rw.cell r1 5
  simp only [List.getElem?_cons_zero, List.getElem?_cons_succ] at c0 c1 c2 c3 c4 c5
  have z0 := Rw.fz r1 0
  have z1 := Rw.fz r1 1
  have z2 := Rw.fz r1 2
  have z3 := Rw.fz r1 3
  have z4 := Rw.fz r1 4
  have z5 := Rw.fz r1 5
  have R1 := Lib.hid r1
  have B1 := Lib.hid (((hB.out _ _).trans b1.out))
  clear r1 b1
  go_wp2
  have r2 := Rw.set (Rw.set (Rw.set (Rw.set (Rw.set (Rw.set R1.out 0 (.int .i64 1)) 1 (.string s)) 2 (.int .i64 0)) 3 (.int .u64 0)) 4 (.float .f64 0)) 5 (.bool false)
  refine ⟨rfl, _, results_cell_row (p := 4) (ty := 25) rfl _ _ (w.heap.size + 1) 25 _ (0, 0) _ rfl r2 Tryd.underlying25 rfl (by kernel_rfl), rfl, Lib.hid ?_⟩
  exact (((((B1.out.setCell (Or.inr (by simp)) _).setCell (Or.inr (by simp)) _).setCell (Or.inr (by simp)) _).setCell (Or.inr (by simp)) _).setCell (Or.inr (by simp)) _).setCell (Or.inr (by simp)) _
end Go.Proofs.YtkibdomfiodilaaDoor.val
