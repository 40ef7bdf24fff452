/-
  Proved: laws.FnEscapeJoin returns true at every number and two strings, in every world.
  Conditions: the strings' sizes are those that a string can have.
-/
import Derived.Test.YtkibdomfiodilaaDoorEscG
namespace Go.Proofs.YtkibdomfiodilaaDoor.esc
open Go.RowKit Mem
set_option linter.unusedVariables false

theorem add_str (a b : ByteArray) : a ++ b = ⟨(a.data.toList ++ b.data.toList).toArray⟩ := by
  apply ByteArray.ext
  apply Array.toList_inj.1
  simp
/-- The escaped text as a string. -/
def escS (k : Int) (s : ByteArray) : ByteArray := ⟨(esc k s.data.toList).toArray⟩
theorem escS_size (k : Int) (s : ByteArray) : (escS k s).size = (esc k s.data.toList).length := by simp [escS, ByteArray.size]
theorem escS_add (k : Int) (a b : ByteArray) : escS k (a ++ b) = escS k a ++ escS k b := by
  rw [add_str (escS k a)]
  simp [escS, esc_append]
theorem escape_nil (k : Int) (h0 : 0 ≤ k) (h4 : k ≤ 4) (s : ByteArray) (hs : s.size ≤ 5000) (w : World) :
    Calls Tryd.prog 14 #[.int .i64 k, .string ⟨#[]⟩, .string s] w fun e w' => e = .returned (.string (escS k s)) ∧ Below w.heap.size w w' :=
  escape14 k h0 h4 ⟨#[]⟩ s (by decide) hs w
theorem escape_on (k : Int) (h0 : 0 ≤ k) (h4 : k ≤ 4) (d s : ByteArray) (hd : d.size ≤ 5000) (hs : s.size ≤ 5000) (w : World) :
    Calls Tryd.prog 14 #[.int .i64 k, .string d, .string s] w fun e w' => e = .returned (.string (d ++ escS k s)) ∧ Below w.heap.size w w' := by
  rw [add_str d]
  exact escape14 k h0 h4 d s hd hs w
theorem escape_len (k : Int) (h0 : 0 ≤ k) (h4 : k ≤ 4) (s : ByteArray) (hs : s.size ≤ 5000) (w : World) :
    Calls Tryd.prog 15 #[.int .i64 k, .string s] w fun e w' => e = .returned (.int .i64 ((escS k s).size : Int)) ∧ Below w.heap.size w w' := by
  rw [escS_size]
  exact escLen15 k h0 h4 s hs w

theorem escS_le (k : Int) (s : ByteArray) : (escS k s).size ≤ 2 * s.size := by
  rw [escS_size]
  have := esc_le k s.data.toList
  simpa using this
theorem join_good (k : Int) (a b : ByteArray) (h0 : 0 ≤ k) (h4 : k ≤ 4) (ha : a.size ≤ 2000) (hb : b.size ≤ 2000) (w : World) :
    Calls Tryd.prog 5 #[.int .i64 k, .string a, .string b] w fun e w' => e = .returned (.bool true) ∧ Below w.heap.size w w' := by
  have hab : (a ++ b).size = a.size + b.size := by simp
  have hadd := escS_add k a b
  have h1 : escS k ⟨#[97]⟩ = ⟨#[97]⟩ := by
    have : (∀ c ∈ escs k, c ≠ 97) := fun c hc => by
      rcases escs_known k c hc with rfl | rfl | rfl | rfl | rfl | rfl | rfl | rfl <;> decide
    have ht : tab k 97 = 0 := by
      unfold tab
      rw [if_neg (fun hm => this 97 hm rfl)]
    simp [escS, esc, escB, ht]
  have hx := escS_le k a
  have hy := escS_le k b
  have C1 := Lib.hid (escape_nil k h0 h4 a (by omega))
  have C2 := Lib.hid (escape_nil k h0 h4 b (by omega))
  have C3 := Lib.hid (escape_nil k h0 h4 (a ++ b) (by omega))
  have C4 := Lib.hid (escape_on k h0 h4 a b (by omega) (by omega))
  have C5 := Lib.hid (escape_len k h0 h4 (a ++ b) (by omega))
  have C6 := Lib.hid (escape_nil k h0 h4 ⟨#[97]⟩ (by decide))
  rw [hadd] at C3 C5
  rw [h1] at C6
  generalize escS k a = x at *
  generalize escS k b = y at *
  have hxy : (x ++ y).size = x.size + y.size := by simp
  clear hadd h1
  go_enter Tryd.func5, Tryd.ntmps5
  go_wp2_with fail
  refine (C1.out _).mono ?_
  rintro e w1 ⟨rfl, b1⟩
  go_wp2_with fail
  refine (C2.out _).mono ?_
  rintro e w2 ⟨rfl, b2⟩
  have z1 := b1.size
  have z2 := b2.size
  have B2 := Lib.hid (b1.trans (b2.mono z1))
  clear b1 b2
  go_wp2_with fail
  refine (C3.out _).mono ?_
  rintro e w3 ⟨rfl, b3⟩
  have z3 := b3.size
  have B3 := Lib.hid (B2.out.trans (b3.mono (by omega)))
  clear b3
  go_wp2_with fail
  refine (C4.out _).mono ?_
  rintro e w4 ⟨rfl, b4⟩
  have z4 := b4.size
  have B4 := Lib.hid (B3.out.trans (b4.mono (by omega)))
  clear b4
  go_wp2_with fail
  refine (C5.out _).mono ?_
  rintro e w5 ⟨rfl, b5⟩
  have z5 := b5.size
  have B5 := Lib.hid (B4.out.trans (b5.mono (by omega)))
  clear b5
  go_wp2_with fail
  refine (C6.out _).mono ?_
  rintro e w6 ⟨rfl, b6⟩
  have z6 := b6.size
  have B6 := Lib.hid (B5.out.trans (b6.mono (by omega)))
  clear b6
  go_wp2
  go_ret
  exact ⟨by simp, B6.out⟩

theorem joinWalk (k : Int) (a b : ByteArray) (w0 : (Lit.int .i64 k).wf = true) (w1 : a.size ≤ maxLen) (w2 : b.size ≤ maxLen) (w : World) :
    Calls Tryd.prog 5 #[.int .i64 k, .string a, .string b] w fun e w' => e = .returned (.bool true) ∧ Below w.heap.size w w' := by
  unfold maxLen at w1 w2
  by_cases h : (0 ≤ k ∧ k ≤ 4) ∧ a.size ≤ 2000 ∧ b.size ≤ 2000
  · exact join_good k a b h.1.1 h.1.2 h.2.1 h.2.2 w
  have out : ∀ (c1 : (2147483647 : Int) < a.size ∨ (2147483647 : Int) < b.size ∨ k < 0 ∨ 4 < k ∨ (2000 : Int) < a.size ∨ (2000 : Int) < b.size), Calls Tryd.prog 5 #[.int .i64 k, .string a, .string b] w fun e w' => e = .returned (.bool true) ∧ Below w.heap.size w w' := by
    intro c1
    by_cases q1 : (2147483647 : Int) < a.size
    · clear c1 h
      go_enter Tryd.func5, Tryd.ntmps5
      go_wp2
      go_ret
      exact ⟨rfl, Below.refl _ _⟩
    by_cases q2 : (2147483647 : Int) < b.size
    · clear c1 h
      go_enter Tryd.func5, Tryd.ntmps5
      go_wp2
      go_ret
      exact ⟨rfl, Below.refl _ _⟩
    have hd : (decide (k < 0) || decide (4 < k) || decide ((2000 : Int) < a.size) || decide ((2000 : Int) < b.size)) = true := by simp; omega
    have hn : ¬ (((0 ≤ k ∧ k ≤ 4) ∧ (a.size : Int) ≤ 2000) ∧ (b.size : Int) ≤ 2000) := by omega
    clear c1 h
    go_enter Tryd.func5, Tryd.ntmps5
    go_wp2
    all_goals
      go_ret
      exact ⟨rfl, Below.refl _ _⟩
  exact out (by omega)
end Go.Proofs.YtkibdomfiodilaaDoor.esc
