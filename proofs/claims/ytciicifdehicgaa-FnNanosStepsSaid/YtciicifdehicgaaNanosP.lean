/-
  Proved: for every precision and every 64-bit time, laws.FnNanosSteps returns true (a time of a precision is as many nanoseconds as a thousand times as many of the next finer one, where both fit).
  Conditions: none beyond the given statement's own.
  The frame of the row's step was written by the kit's proof-skeleton.mjs; the walks are this session's.
-/
import Derived.Test.YtciicifdehicgaaNanosW
import Derived.WalkKit
import Derived.ProofKit
import Derived.OpenShut
import Derived.ShutString
namespace Go.Proofs.Ytciicifdehicgaa.fnNanosSteps
open Go.ChangeShapes Go.WideShapes Go.ChangeAt Go.RowKit
open Go.ChangeMaps (open_string shut_string)
set_option linter.unusedVariables false      -- a walk need not use every 'w<i>' (that an integer argument fits its kind)

theorem own : ownKnob Try.prog.godebug = none := by kernel_rfl


theorem grown_trans {a b c : World} (h : Grown a b) (k : Grown b c) : Grown a c :=
  ⟨World.keptBut_trans h.1 k.1, fun x => (k.2.1 x).trans (h.2.1 x), Nat.le_trans h.2.2 k.2.2⟩

theorem q_eq (x d : Int) (hd : 0 < d) (hx : -9223372036854775808 ≤ x ∧ x ≤ 9223372036854775807) : (wrap64 (Int.tdiv (x * d) d) == x) = true ∧ (Int.tmod (x * d) d == 0) = true := by
  rw [Int.mul_tdiv_cancel _ (by omega), Int.mul_tmod_left]
  have : wrap64 x = x := by unfold wrap64; omega
  simp [this]

theorem out (a0 a1 : Int) (h : a0 < 1 ∨ 3 < a0 ∨ 9223372036854775 < a1 ∨ a1 < -9223372036854775) (w : World) :
    Calls Try.prog 3 #[.int .i64 a0, .int .i64 a1] w fun e w' => e = .returned (.bool true) ∧ Grown w w' := by
  by_cases h1 : a0 < 1
  · go_enter Try.func3, Try.ntmps3
    go_wp2
    go_ret
    exact ⟨rfl, Grown.refl _⟩
  by_cases h2 : 3 < a0
  · go_enter Try.func3, Try.ntmps3
    go_wp2
    go_ret
    exact ⟨rfl, Grown.refl _⟩
  by_cases h3 : 9223372036854775 < a1
  · go_enter Try.func3, Try.ntmps3
    go_wp2
    go_ret
    exact ⟨rfl, Grown.refl _⟩
  · have h4 : a1 < -9223372036854775 := by omega
    clear h
    go_enter Try.func3, Try.ntmps3
    go_wp2
    go_ret
    exact ⟨rfl, Grown.refl _⟩

theorem in1 (a1 : Int) (g1 : -9223372036854775 ≤ a1) (g2 : a1 ≤ 9223372036854775) (w : World) :
    Calls Try.prog 3 #[.int .i64 1, .int .i64 a1] w fun e w' => e = .returned (.bool true) ∧ Grown w w' := by
  have hf : nanos.Fits a1 1000 := by unfold nanos.Fits; omega
  obtain ⟨q1, q2⟩ := q_eq a1 1000 (by decide) (by omega)
  have HF := Lib.hid hf
  clear hf
  go_enter Try.func3, Try.ntmps3
  go_wp2_with fail
  refine (nanos.nanos_yes1 _ HF.out _).mono ?_
  rintro e w1 ⟨rfl, g1'⟩
  go_wp2_with fail
  refine (nanos.nanos0 _ _).mono ?_
  rintro e w2 ⟨rfl, g2'⟩
  go_wp2_with fail
  refine (nanos.prec1 _).mono ?_
  rintro e w3 ⟨rfl, g3'⟩
  go_wp2_with fail
  refine (nanos.prec0 _).mono ?_
  rintro e w4 ⟨rfl, g4'⟩
  go_wp2
  go_ret
  exact ⟨rfl, grown_trans (grown_trans (grown_trans g1' g2') g3') g4'⟩

theorem in2 (a1 : Int) (g1 : -9223372036854775 ≤ a1) (g2 : a1 ≤ 9223372036854775) (w : World) :
    Calls Try.prog 3 #[.int .i64 2, .int .i64 a1] w fun e w' => e = .returned (.bool true) ∧ Grown w w' := by
  by_cases hf : nanos.Fits a1 1000000
  · have hf2 : nanos.Fits (a1 * 1000) 1000 := by unfold nanos.Fits at *; omega
    obtain ⟨q1, q2⟩ := q_eq a1 1000000 (by decide) (by omega)
    have q3 : (a1 * 1000000 == a1 * 1000 * 1000) = true := by simp; omega
    have HF := Lib.hid hf
    clear hf
    have HG := Lib.hid hf2
    clear hf2
    go_enter Try.func3, Try.ntmps3
    go_wp2_with fail
    refine (nanos.nanos_yes2 _ HF.out _).mono ?_
    rintro e w1 ⟨rfl, g1'⟩
    go_wp2_with fail
    refine (nanos.nanos_yes1 _ HG.out _).mono ?_
    rintro e w2 ⟨rfl, g2'⟩
    go_wp2_with fail
    refine (nanos.prec2 _).mono ?_
    rintro e w3 ⟨rfl, g3'⟩
    go_wp2_with fail
    refine (nanos.prec1 _).mono ?_
    rintro e w4 ⟨rfl, g4'⟩
    go_wp2
    go_ret
    exact ⟨rfl, grown_trans (grown_trans (grown_trans g1' g2') g3') g4'⟩
  · have hf2 : ¬ nanos.Fits (a1 * 1000) 1000 := by unfold nanos.Fits at *; omega
    have b1 : -9223372036854775808 ≤ a1 ∧ a1 ≤ 9223372036854775807 := by omega
    have b2 : -9223372036854775808 ≤ a1 * 1000 ∧ a1 * 1000 ≤ 9223372036854775807 := by omega
    have HF := Lib.hid hf
    clear hf
    have HG := Lib.hid hf2
    clear hf2
    go_enter Try.func3, Try.ntmps3
    go_wp2_with fail
    refine (nanos.nanos_no2 _ b1 HF.out _).mono ?_
    rintro e w1 ⟨rfl, g1'⟩
    go_wp2_with fail
    refine (nanos.nanos_no1 _ b2 HG.out _).mono ?_
    rintro e w2 ⟨rfl, g2'⟩
    go_wp2_with fail
    refine (nanos.prec2 _).mono ?_
    rintro e w3 ⟨rfl, g3'⟩
    go_wp2_with fail
    refine (nanos.prec1 _).mono ?_
    rintro e w4 ⟨rfl, g4'⟩
    go_wp2
    go_ret
    exact ⟨rfl, grown_trans (grown_trans (grown_trans g1' g2') g3') g4'⟩

theorem in3 (a1 : Int) (g1 : -9223372036854775 ≤ a1) (g2 : a1 ≤ 9223372036854775) (w : World) :
    Calls Try.prog 3 #[.int .i64 3, .int .i64 a1] w fun e w' => e = .returned (.bool true) ∧ Grown w w' := by
  by_cases hf : nanos.Fits a1 1000000000
  · have hf2 : nanos.Fits (a1 * 1000) 1000000 := by unfold nanos.Fits at *; omega
    obtain ⟨q1, q2⟩ := q_eq a1 1000000000 (by decide) (by omega)
    have q3 : (a1 * 1000000000 == a1 * 1000 * 1000000) = true := by simp; omega
    have HF := Lib.hid hf
    clear hf
    have HG := Lib.hid hf2
    clear hf2
    go_enter Try.func3, Try.ntmps3
    go_wp2_with fail
    refine (nanos.nanos_yes3 _ HF.out _).mono ?_
    rintro e w1 ⟨rfl, g1'⟩
    go_wp2_with fail
    refine (nanos.nanos_yes2 _ HG.out _).mono ?_
    rintro e w2 ⟨rfl, g2'⟩
    go_wp2_with fail
    refine (nanos.prec3 _).mono ?_
    rintro e w3 ⟨rfl, g3'⟩
    go_wp2_with fail
    refine (nanos.prec2 _).mono ?_
    rintro e w4 ⟨rfl, g4'⟩
    go_wp2
    go_ret
    exact ⟨rfl, grown_trans (grown_trans (grown_trans g1' g2') g3') g4'⟩
  · have hf2 : ¬ nanos.Fits (a1 * 1000) 1000000 := by unfold nanos.Fits at *; omega
    have b1 : -9223372036854775808 ≤ a1 ∧ a1 ≤ 9223372036854775807 := by omega
    have b2 : -9223372036854775808 ≤ a1 * 1000 ∧ a1 * 1000 ≤ 9223372036854775807 := by omega
    have HF := Lib.hid hf
    clear hf
    have HG := Lib.hid hf2
    clear hf2
    go_enter Try.func3, Try.ntmps3
    go_wp2_with fail
    refine (nanos.nanos_no3 _ b1 HF.out _).mono ?_
    rintro e w1 ⟨rfl, g1'⟩
    go_wp2_with fail
    refine (nanos.nanos_no2 _ b2 HG.out _).mono ?_
    rintro e w2 ⟨rfl, g2'⟩
    go_wp2_with fail
    refine (nanos.prec3 _).mono ?_
    rintro e w3 ⟨rfl, g3'⟩
    go_wp2_with fail
    refine (nanos.prec2 _).mono ?_
    rintro e w4 ⟨rfl, g4'⟩
    go_wp2
    go_ret
    exact ⟨rfl, grown_trans (grown_trans (grown_trans g1' g2') g3') g4'⟩

theorem walk (a0 : Int) (a1 : Int) (w0 : (Lit.int .i64 a0).wf = true) (w1 : (Lit.int .i64 a1).wf = true) (w : World) :
    Calls Try.prog 3 #[.int .i64 a0, .int .i64 a1] w fun e w' => e = .returned (.bool true) ∧ Grown w w' := by
  by_cases h : a0 < 1 ∨ 3 < a0 ∨ 9223372036854775 < a1 ∨ a1 < -9223372036854775
  · exact out a0 a1 h w
  · obtain rfl | rfl | rfl : a0 = 1 ∨ a0 = 2 ∨ a0 = 3 := by omega
    · exact in1 a1 (by omega) (by omega) w
    · exact in2 a1 (by omega) (by omega) w
    · exact in3 a1 (by omega) (by omega) w

/-! ### THE ROW's STEP: WRITTEN OUT: LEAVE IT -/
set_option maxRecDepth 100000 in
theorem lifted (os : Os) (started : os.Started) (H : Type) (enc : TypeId × Value → H) :
    ReturnsInHanded {} Try.checked os 3 .any (Rows.fnNanosStepsSpec.pre6 enc Try.prog Try.f3 Rows.fnNanosStepsRow.domain false) (Rows.fnNanosStepsSpec.post enc Try.prog Try.f3 false true false false) := by
  refine returnsInHanded_of_change (C := Try.checked) own started (by kernel_rfl) Try.func3
    (ChangeSpec.witness6 (enc := enc) (C := Try.checked) false ⟨#[], #[.int .i64 0, .int .i64 0], []⟩ 8 (by kernel_rfl) (by kernel_rfl) (by kernel_rfl) (by kernel_rfl)) ?_
  intro W base args ds gs before hval0 hW hcnd _
  have hval : ∀ (j : Nat) t v, Try.f3.params[j]? = some t → args[j]? = some v → Value.okWide Try.prog W .any base t v := hval0
  have hW' := hW
  obtain ⟨p, q, hA0, hV, rfl, hfz, hnd⟩ := hW
  have hA : DataW.TrodAll enc Try.prog W 0 (fun _ => true) true Try.f3.params.toList args.toList ds p := hA0
  rw [Try.params3] at hA hval
  obtain ⟨v0, vs0, d0, ds0, p0, q0, hargs, rfl, rfl, h0, r0⟩ := trodAll_cons hA
  obtain ⟨v1, vs1, d1, ds1, p1, q1, rfl, rfl, rfl, h1, r1⟩ := trodAll_cons r0
  obtain ⟨rfl, rfl, rfl⟩ := trodAll_nil r1
  obtain rfl : args = #[v0, v1] := by cases args; simp_all
  obtain ⟨rfl, rfl⟩ := trodVars_none hV
  obtain ⟨a0, rfl, rfl, rfl, w0⟩ := open_int Try.underlying3 (hval 0 3 v0 rfl rfl) h0
  obtain ⟨a1, rfl, rfl, rfl, w1⟩ := open_int Try.underlying2 (hval 1 2 v1 rfl rfl) h1
  clear hA0 hval0
  simp only [List.append_nil] at hW'
  refine (walk a0 a1 w0 w1 W).mono fun e W' ⟨he, hg⟩ => ?_
  subst he
  exact ⟨_, rfl, post_of_same (pa := []) (pv := []) hW' (fun _ _ _ => (trodAll_cons_mk (shut_bool Try.underlying4 _) trodAll_mk0)) (fun sp _ => (trodAll_cons_mk (shut_int Try.underlying3 w0) (trodAll_cons_mk (shut_int Try.underlying2 w1) trodAll_mk0))) (fun _ _ => rfl) rfl
    (hg.frame _) hg.2.1 (ok_one (by kernel_rfl) rfl (okWide_bool_mk Try.underlying4 _))⟩

theorem over : Rows.fnNanosStepsRow.holds Try.pinned (OpenSpec.ofChange Rows.fnNanosStepsSpec) :=
  OpenClaim.holds_of_wide 3 Try.f3 rfl rfl rfl rfl rfl rfl rfl ⟨rfl, rfl, rfl, rfl, rfl⟩ rfl rfl rfl rfl rfl (by kernel_rfl) Try.func3 (by kernel_rfl)
    (of_decide_eq_true (by kernel_rfl)) (by unfold Func.isWrapper; first | (rw [if_pos (by decide +kernel)]; kernel_rfl) | (rw [if_neg (by decide +kernel)]; exact ⟨rfl, rfl⟩))
    (fun os started H enc _ => lifted os started H enc)

theorem proved : Rows.FnNanosStepsSaid :=
  over
#print axioms proved
end Go.Proofs.Ytciicifdehicgaa.fnNanosSteps
