/-
  Proved: the contracts of laws.zzFits3, laws.lKinds (of one value), laws.lPlain, laws.lSameValue (of the same), spec.CanBe.
  Conditions: each contract's own.
-/
import Derived.Test.YtkibdomfiodilaaDoorFlu
import Derived.Test.YtkibdomfiodilaaDoorUtfS
import Derived.WalkLawsBesides
import Derived.Laws.Entries
namespace Go.Proofs.YtkibdomfiodilaaDoor.val
open Go.RowKit Mem
set_option linter.unusedVariables false

/-- A float is stored as other values are. -/
theorem store_float (P : Program) (w : World) (a : Addr) (m : Mode) (k : FloatKind) (b : Nat) : (store a (.float k b) m).run P w = stored P w a (.float k b) m := run_store P w a _ m rfl
attribute [local go_sem] store_float

/-- A value as the thin package has it. -/
abbrev vA (k : Int) (s : ByteArray) (n u : Int) (f : Nat) (b : Bool) : Value := .agg #[.int .i64 k, .string s, .int .i64 n, .int .u64 u, .float .f64 f, .bool b]

theorem fits7 (k : Int) (s : ByteArray) (n u : Int) (f : Nat) (b : Bool) (w : World) :
    Calls Tryd.prog 7 #[vA k s n u f b] w fun e w' => e = .returned (.bool (decide (s.size ≤ 2147483647))) ∧ Below w.heap.size w w' := by
  have hb : Hid (∀ o, Below w.heap.size w (w.alloc o)) := Lib.hid fun o => ((But.refl [] w).alloc o).toBelow
  by_cases h : (2147483647 : Int) < (s.size : Int)
  · have hd : decide (s.size ≤ 2147483647) = false := by simp; omega
    rw [hd]
    go_enter Tryd.func7, Tryd.ntmps7
    go_wp2
    go_ret
    exact ⟨rfl, hb.out _⟩
  · have hd : decide (s.size ≤ 2147483647) = true := by simp; omega
    rw [hd]
    go_enter Tryd.func7, Tryd.ntmps7
    go_wp2
    go_ret
    exact ⟨rfl, hb.out _⟩

/-- What a value's kind keeps of it. -/
def plainA (k : Int) (s : ByteArray) (n u : Int) (f : Nat) (b : Bool) : Value :=
  if k = 1 then vA k s 0 0 0 false else if k = 2 then vA k ByteArray.empty n 0 0 false else if k = 3 then vA k ByteArray.empty 0 u 0 false
  else if k = 4 then vA k ByteArray.empty 0 0 f false else if k = 5 then vA k ByteArray.empty 0 0 0 b else vA k ByteArray.empty 0 0 0 false

theorem second (w : World) (a b c : Obj) : (((w.alloc a).alloc b).alloc c).heap[w.heap.size + 1]? = some b := by
  rw [Below.heap_alloc _ _ _ (by simp)]
  have := Go.heap_alloc_new (w.alloc a) b
  simpa using this
theorem plain12 (k : Int) (s : ByteArray) (n u : Int) (f : Nat) (b : Bool) (w : World) (hk : 1 ≤ k ∧ k ≤ 5) :
    Calls Tryd.prog 12 #[vA k s n u f b] w fun e w' => e = .returned (plainA k s n u f b) ∧ Below w.heap.size w w' := by
  have h3 : Hid (∀ a b c, Below w.heap.size w (((w.alloc a).alloc b).alloc c)) := Lib.hid fun a b c => ((((But.refl [] w).alloc a).alloc b).alloc c).toBelow
  obtain rfl | rfl | rfl | rfl | rfl : k = 1 ∨ k = 2 ∨ k = 3 ∨ k = 4 ∨ k = 5 := by omega
  all_goals
    go_enter Tryd.func12, Tryd.ntmps12
    go_wp2
    exact ⟨rfl, _, results_cell_row (p := 2) (ty := 25) rfl _ _ (w.heap.size + 1) 25 _ (0, 0) _ rfl (second _ _ _ _) Tryd.underlying25 rfl (by kernel_rfl), rfl, h3.out _ _ _⟩
end Go.Proofs.YtkibdomfiodilaaDoor.val
