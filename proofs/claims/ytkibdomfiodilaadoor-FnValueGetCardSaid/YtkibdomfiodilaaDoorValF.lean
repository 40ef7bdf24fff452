/-
  Proved: the contracts of spec.CanBe, laws.lKinds of one value, laws.lSameValue of one value with itself.
  Conditions: each contract's own.
-/
import Derived.Test.YtkibdomfiodilaaDoorValE
namespace Go.Proofs.YtkibdomfiodilaaDoor.val
open Go.RowKit Mem rw
set_option linter.unusedVariables false
attribute [local go_sem] store_float

theorem run_sub_none (f : Nat) (t : TypeId) (w : World) (h : floatBits .sub .f64 f f = none) :
    (binOp .sub t (.float .f64 f) (.float .f64 f)).run Tryd.prog w = .ok (.float .f64 (Question.cut (.nanBits .f64 f f) (w.tape w.drawn (.nanBits .f64 f f)))) w.drew := by
  unfold floatBits at h
  simp only at h
  simp [binOp, Op.floatArith, h, Question.forced]

/-- A value can be made. -/
def canB (k : Int) (s : ByteArray) (f : Nat) : Bool := if k = 1 then utf.V s.data.toList else if k = 4 then flt.fin f else decide (k = 2) || decide (k = 3) || decide (k = 5)

def Quiet (b : Bool) (w : World) (e : Ending) (w' : World) : Prop := e = .returned (.bool b) ∧ Hid (But [] w w')
theorem can_str (s : ByteArray) (n u : Int) (f : Nat) (b : Bool) (hs : s.size ≤ 2147483647) (w : World) :
    Calls Tryd.prog 10 #[vA 1 s n u f b] w fun e w' => Quiet (utf.V s.data.toList) w e w' := by
  have hB : Hid (∀ o, But [] w (w.alloc o)) := Lib.hid fun o => (But.refl [] w).alloc o
  have HU := Lib.hid (fun w0 => utf.utf25 s hs w0)
  obtain ⟨r, hr⟩ : ∃ r, utf.V s.data.toList = r := ⟨_, rfl⟩
  rw [hr] at HU ⊢
  clear hr
  go_enter Tryd.func10, Tryd.ntmps10
  go_wp2_with fail
  refine (HU.out _).mono ?_
  rintro e w1 ⟨rfl, rfl⟩
  go_wp2
  go_ret
  exact ⟨rfl, Lib.hid (hB.out _)⟩
theorem can_float (s : ByteArray) (n u : Int) (f : Nat) (b : Bool) (hfin : flt.fin f = true) (w : World) :
    Calls Tryd.prog 10 #[vA 4 s n u f b] w fun e w' => Quiet true w e w' := by
  have hB : Hid (∀ o, But [] w (w.alloc o)) := Lib.hid fun o => (But.refl [] w).alloc o
  have hsub := fun t w0 => run_float_arith (P := Tryd.prog) w0 .sub t .f64 f f 0 (flt.sub_self f hfin)
  have hq : (FloatKind.f64.format.order 0 0 == some .eq) = true := by decide
  clear hfin
  go_enter Tryd.func10, Tryd.ntmps10
  go_wp2
  go_ret
  refine ⟨?_, Lib.hid (hB.out _)⟩
  first | rfl | simp
theorem can_nan (s : ByteArray) (n u : Int) (f : Nat) (b : Bool) (hfin : flt.fin f = false) (w : World) :
    Calls Tryd.prog 10 #[vA 4 s n u f b] w fun e w' => Quiet false w e w' := by
  have hB : Hid (∀ o, But [] w (w.alloc o).drew) := Lib.hid fun o => ((But.refl [] w).alloc o).drew
  have hsub := fun t w0 => run_sub_none f t w0 (flt.sub_none f hfin)
  have hq : Hid (∀ t, (FloatKind.f64.format.order (Question.cut (.nanBits .f64 f f) t) 0 == some .eq) = false) := Lib.hid fun t => flt.nan_eq _ _ (flt.nan_cut f f t)
  clear hfin
  go_enter Tryd.func10, Tryd.ntmps10
  go_wp2
  go_ret
  refine ⟨?_, Lib.hid (hB.out _)⟩
  have := hq.out
  simp [this]
theorem can_else (k : Int) (s : ByteArray) (n u : Int) (f : Nat) (b : Bool) (h1 : k ≠ 1) (h4 : k ≠ 4) (w : World) :
    Calls Tryd.prog 10 #[vA k s n u f b] w fun e w' => Quiet (decide (k = 2) || decide (k = 3) || decide (k = 5)) w e w' := by
  have hB : Hid (∀ o, But [] w (w.alloc o)) := Lib.hid fun o => (But.refl [] w).alloc o
  have e1 : (k == 1) = false := by simpa using h1
  have e4 : (k == 4) = false := by simpa using h4
  clear h1 h4
  by_cases h2 : k = 2
  · subst h2
    go_enter Tryd.func10, Tryd.ntmps10
    go_wp2
    go_ret
    exact ⟨rfl, Lib.hid (hB.out _)⟩
  by_cases h3 : k = 3
  · subst h3
    go_enter Tryd.func10, Tryd.ntmps10
    go_wp2
    go_ret
    exact ⟨rfl, Lib.hid (hB.out _)⟩
  by_cases h5 : k = 5
  · subst h5
    go_enter Tryd.func10, Tryd.ntmps10
    go_wp2
    go_ret
    exact ⟨rfl, Lib.hid (hB.out _)⟩
  have e : (decide (k = 2) || decide (k = 3) || decide (k = 5)) = false := by simp [h2, h3, h5]
  rw [e]
  clear e
  have e2 : (k == 2) = false := by simpa using h2
  have e3 : (k == 3) = false := by simpa using h3
  have e5 : (k == 5) = false := by simpa using h5
  clear h2 h3 h5
  go_enter Tryd.func10, Tryd.ntmps10
  go_wp2
  go_ret
  exact ⟨rfl, Lib.hid (hB.out _)⟩
theorem can10 (k : Int) (s : ByteArray) (n u : Int) (f : Nat) (b : Bool) (hs : s.size ≤ 2147483647) (w : World) :
    Calls Tryd.prog 10 #[vA k s n u f b] w fun e w' => Quiet (canB k s f) w e w' := by
  by_cases h1 : k = 1
  · subst h1
    exact can_str s n u f b hs w
  by_cases h4 : k = 4
  · subst h4
    cases hf : flt.fin f
    · have : canB 4 s f = false := by simp [canB, hf]
      rw [this]
      exact can_nan s n u f b hf w
    · have : canB 4 s f = true := by simp [canB, hf]
      rw [this]
      exact can_float s n u f b hf w
  · have : canB k s f = (decide (k = 2) || decide (k = 3) || decide (k = 5)) := by simp [canB, h1, h4]
    rw [this]
    exact can_else k s n u f b h1 h4 w
end Go.Proofs.YtkibdomfiodilaaDoor.val
