/-
  Proved: the contract of impl.ValueGet for every value, and the law FnValueGet walked.
  Conditions: a number's bits fit; the tables of utf8 read as their initialisers lay them.
-/
import Derived.Test.YtkibdomfiodilaaDoorValI
import Derived.Deep.RegionHeld3
namespace Go.Proofs.YtkibdomfiodilaaDoor.val
open Go.RowKit Mem rw
set_option linter.unusedVariables false
attribute [local go_sem] store_float

abbrev Tabs (w : World) : Prop := Lib.Utf8Tabs 0 1 w
theorem get_bad (k : Int) (s : ByteArray) (n u : Int) (f : Nat) (b : Bool) (kind : Int) (hk : 1 ≤ kind ∧ kind ≤ 5) (hs : s.size ≤ 2147483647) (hf : f < 2 ^ 64) (w : World) (hT : Tabs w)
    (h : ¬ (canB k s f = true ∧ k = kind)) :
    Calls Tryd.prog 9 #[vA k s n u f b, .int .i64 kind] w (GetOut w zeroA false) := by
  have tb : ∀ w', But [] w w' → Tabs w' := fun w' hb => tabs_but hT hb (by simp) (by simp)
  by_cases k1 : k = 1
  · subst k1
    cases hv : utf.V s.data.toList
    · exact get_no 1 s n u f b kind w fun w' hb => (val_strN s n u f b hs hv w' (tb w' hb)).mono fun e w'' h => h
    · have hne : kindN 0 ≠ kind := fun e => h ⟨by simp [canB, hv], e⟩
      refine get_panic 1 s n u f b kind hk.1 hk.2 w fun w' hb => (val_str s n u f b hs hv w' (tb w' hb)).mono ?_
      rintro e w'' ⟨A, c, rfl, hB, hbut, _⟩
      exact ⟨0, _, _, _, 0, rfl, Lib.hid ⟨hbut, fun w3 _ => acc_bad kind hk 0 0 _ rfl hne w3⟩⟩
  by_cases k2 : k = 2
  · subst k2
    have hne : kindN 2 ≠ kind := fun e => h ⟨by simp [canB], e⟩
    refine get_panic 2 s n u f b kind hk.1 hk.2 w fun w' hb => (val_int s n u f b w').mono ?_
    rintro e w'' ⟨rfl, hbut⟩
    exact ⟨_, _, _, _, _, rfl, Lib.hid ⟨hbut.out, fun w3 _ => acc_bad kind hk _ 2 _ rfl hne w3⟩⟩
  by_cases k3 : k = 3
  · subst k3
    have hne : kindN 3 ≠ kind := fun e => h ⟨by simp [canB], e⟩
    refine get_panic 3 s n u f b kind hk.1 hk.2 w fun w' hb => (val_uint s n u f b w').mono ?_
    rintro e w'' ⟨rfl, hbut⟩
    exact ⟨_, _, _, _, _, rfl, Lib.hid ⟨hbut.out, fun w3 _ => acc_bad kind hk _ 3 _ rfl hne w3⟩⟩
  by_cases k4 : k = 4
  · subst k4
    cases hv : flt.fin f
    · exact get_no 4 s n u f b kind w fun w' hb => (val_floatN s n u f b hf hv w').mono fun e w'' h => h
    · have hne : kindN 4 ≠ kind := fun e => h ⟨by simp [canB, hv], e⟩
      refine get_panic 4 s n u f b kind hk.1 hk.2 w fun w' hb => (val_float s n u f b hf hv w').mono ?_
      rintro e w'' ⟨rfl, hbut⟩
      exact ⟨_, _, _, _, _, rfl, Lib.hid ⟨hbut.out, fun w3 _ => acc_bad kind hk _ 4 _ rfl hne w3⟩⟩
  by_cases k5 : k = 5
  · subst k5
    have hne : kindN 5 ≠ kind := fun e => h ⟨by simp [canB], e⟩
    refine get_panic 5 s n u f b kind hk.1 hk.2 w fun w' hb => (val_bool s n u f b (if b then 1 else 0) (by cases b <;> simp) w').mono ?_
    rintro e w'' ⟨rfl, hbut⟩
    exact ⟨_, _, _, _, _, rfl, Lib.hid ⟨hbut.out, fun w3 _ => acc_bad kind hk _ 5 _ rfl hne w3⟩⟩
  · exact get_no k s n u f b kind w fun w' hb => (val_none k s n u f b ⟨k1, k2, k3, k4, k5⟩ w').mono fun e w'' h => h

theorem get_good (k : Int) (s : ByteArray) (n u : Int) (f : Nat) (b : Bool) (hs : s.size ≤ 2147483647) (hf : f < 2 ^ 64) (hn : -9223372036854775808 ≤ n ∧ n ≤ 9223372036854775807) (w : World) (hT : Tabs w)
    (h : canB k s f = true) :
    ∃ a1 a2 a3 a4 a5, plainA k s n u f b = vA k a1 a2 a3 a4 a5 ∧ flt.fin a4 = true ∧ Calls Tryd.prog 9 #[vA k s n u f b, .int .i64 k] w (GetOut w (vA k a1 a2 a3 a4 a5) true) := by
  have tb : ∀ w', But [] w w' → Tabs w' := fun w' hb => tabs_but hT hb (by simp) (by simp)
  have f0 : flt.fin 0 = true := by decide
  by_cases k1 : k = 1
  · subst k1
    have hv : utf.V s.data.toList = true := by simpa [canB] using h
    refine ⟨s, 0, 0, 0, false, rfl, f0, get_yes 1 s n u f b 1 (by decide) (by decide) 1 s 0 0 0 false w fun w' hb => (val_str s n u f b hs hv w' (tb w' hb)).mono ?_⟩
    rintro e w'' ⟨A, c, rfl, hB, hbut, _⟩
    refine ⟨0, _, _, _, 0, rfl, Lib.hid ⟨hbut, fun w3 hb3 => acc_StringV _ c s w3 fun w4 hb4 => ?_⟩⟩
    have h4 := (hB.but (hb3.trans hb4) (by simp)).str
    have e1 : s.data.toList.length = s.size := by simp
    have e2 : (⟨s.data.toList.toArray⟩ : ByteArray) = s := by simp
    rw [e1, e2] at h4
    exact h4
  by_cases k2 : k = 2
  · subst k2
    refine ⟨ByteArray.empty, n, 0, 0, false, rfl, f0, get_yes 2 s n u f b 2 (by decide) (by decide) 2 ByteArray.empty n 0 0 false w fun w' hb => (val_int s n u f b w').mono ?_⟩
    rintro e w'' ⟨rfl, hbut⟩
    exact ⟨_, _, _, _, _, rfl, Lib.hid ⟨hbut.out, fun w3 _ => acc_IntV n hn w3⟩⟩
  by_cases k3 : k = 3
  · subst k3
    refine ⟨ByteArray.empty, 0, u, 0, false, rfl, f0, get_yes 3 s n u f b 3 (by decide) (by decide) 3 ByteArray.empty 0 u 0 false w fun w' hb => (val_uint s n u f b w').mono ?_⟩
    rintro e w'' ⟨rfl, hbut⟩
    exact ⟨_, _, _, _, _, rfl, Lib.hid ⟨hbut.out, fun w3 _ => acc_UintV u w3⟩⟩
  by_cases k4 : k = 4
  · subst k4
    have hv : flt.fin f = true := by simpa [canB] using h
    refine ⟨ByteArray.empty, 0, 0, f, false, rfl, hv, get_yes 4 s n u f b 4 (by decide) (by decide) 4 ByteArray.empty 0 0 f false w fun w' hb => (val_float s n u f b hf hv w').mono ?_⟩
    rintro e w'' ⟨rfl, hbut⟩
    exact ⟨_, _, _, _, _, rfl, Lib.hid ⟨hbut.out, fun w3 _ => acc_FloatV f w3⟩⟩
  by_cases k5 : k = 5
  · subst k5
    refine ⟨ByteArray.empty, 0, 0, 0, b, rfl, f0, get_yes 5 s n u f b 5 (by decide) (by decide) 5 ByteArray.empty 0 0 0 b w fun w' hb => (val_bool s n u f b (if b then 1 else 0) (by cases b <;> simp) w').mono ?_⟩
    rintro e w'' ⟨rfl, hbut⟩
    exact ⟨_, _, _, _, _, rfl, Lib.hid ⟨hbut.out, fun w3 _ => acc_BoolV _ b (by cases b <;> simp) w3⟩⟩
  · exfalso
    simp [canB, k1, k2, k3, k4, k5] at h
end Go.Proofs.YtkibdomfiodilaaDoor.val
