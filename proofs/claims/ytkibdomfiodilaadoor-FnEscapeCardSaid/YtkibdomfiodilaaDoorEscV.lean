/-
  Proved: laws.FnEscape returns true at every number and two strings, in every world.
  Conditions: the strings' sizes are those that a string can have.
-/
import Derived.Test.YtkibdomfiodilaaDoorEscS
namespace Go.Proofs.YtkibdomfiodilaaDoor.esc
open Go.RowKit Mem
set_option linter.unusedVariables false

theorem escape_good (k : Int) (a b : ByteArray) (h0 : 0 ≤ k) (h4 : k ≤ 4) (ha : a.size ≤ 2000) (hb : b.size ≤ 2000) (w : World) :
    Calls Tryd.prog 4 #[.int .i64 k, .string a, .string b] w fun e w' => e = .returned (.bool true) ∧ Below w.heap.size w w' := by
  have hx := escS_le k b
  have C1 := Lib.hid (spec13 k h0 h4 b (by omega))
  have C2 := Lib.hid (escape_on k h0 h4 a b (by omega) (by omega))
  have C3 := Lib.hid (escape_len k h0 h4 b (by omega))
  generalize escS k b = x at *
  have hax : (a ++ x).size = a.size + x.size := by simp
  go_enter Tryd.func4, Tryd.ntmps4
  go_wp2_with fail
  refine (C1.out _).mono ?_
  rintro e w1 ⟨rfl, b1⟩
  go_wp2_with fail
  refine (C2.out _).mono ?_
  rintro e w2 ⟨rfl, b2⟩
  have z1 := b1.size
  have z2 := b2.size
  have B2 := Lib.hid (b1.trans (b2.mono z1))
  clear b1 b2
  go_wp2_with fail
  refine (C3.out _).mono ?_
  rintro e w3 ⟨rfl, b3⟩
  have z3 := b3.size
  have B3 := Lib.hid (B2.out.trans (b3.mono (by omega)))
  clear b3
  go_wp2
  go_ret
  exact ⟨by simp, B3.out⟩

theorem escapeWalk (k : Int) (a b : ByteArray) (w0 : (Lit.int .i64 k).wf = true) (w1 : a.size ≤ maxLen) (w2 : b.size ≤ maxLen) (w : World) :
    Calls Tryd.prog 4 #[.int .i64 k, .string a, .string b] w fun e w' => e = .returned (.bool true) ∧ Below w.heap.size w w' := by
  unfold maxLen at w1 w2
  by_cases h : (0 ≤ k ∧ k ≤ 4) ∧ a.size ≤ 2000 ∧ b.size ≤ 2000
  · exact escape_good k a b h.1.1 h.1.2 h.2.1 h.2.2 w
  have out : ∀ (c1 : (2147483647 : Int) < a.size ∨ (2147483647 : Int) < b.size ∨ k < 0 ∨ 4 < k ∨ (2000 : Int) < a.size ∨ (2000 : Int) < b.size), Calls Tryd.prog 4 #[.int .i64 k, .string a, .string b] w fun e w' => e = .returned (.bool true) ∧ Below w.heap.size w w' := by
    intro c1
    by_cases q1 : (2147483647 : Int) < a.size
    · clear c1 h
      go_enter Tryd.func4, Tryd.ntmps4
      go_wp2
      go_ret
      exact ⟨rfl, Below.refl _ _⟩
    by_cases q2 : (2147483647 : Int) < b.size
    · clear c1 h
      go_enter Tryd.func4, Tryd.ntmps4
      go_wp2
      go_ret
      exact ⟨rfl, Below.refl _ _⟩
    have hd : (decide (k < 0) || decide (4 < k) || decide ((2000 : Int) < a.size) || decide ((2000 : Int) < b.size)) = true := by simp; omega
    have hn : ¬ (((0 ≤ k ∧ k ≤ 4) ∧ (a.size : Int) ≤ 2000) ∧ (b.size : Int) ≤ 2000) := by omega
    clear c1 h
    go_enter Tryd.func4, Tryd.ntmps4
    go_wp2
    all_goals
      go_ret
      exact ⟨rfl, Below.refl _ _⟩
  exact out (by omega)
end Go.Proofs.YtkibdomfiodilaaDoor.esc
