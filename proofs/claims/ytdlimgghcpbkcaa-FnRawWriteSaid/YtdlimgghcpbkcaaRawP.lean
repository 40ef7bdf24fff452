/-
  Proved: for every string, laws.FnRawWrite returns true (a raw message is written as it is).
  Conditions: none beyond the given statement's own.
  The frame of the row's step was written by the kit's proof-skeleton.mjs; the walks are this session's.
-/
import Derived.Test.YtdlimgghcpbkcaaRawW
import Derived.WalkKit
import Derived.ProofKit
import Derived.OpenShut
import Derived.ShutString
import Derived.Below
namespace Go.Proofs.Ytdlimgghcpbkcaa.fnRawWrite
open Go.ChangeShapes Go.WideShapes Go.ChangeAt Go.RowKit
open Go.ChangeMaps (open_string shut_string)
set_option linter.unusedVariables false      -- a walk need not use every 'w<i>' (that an integer argument fits its kind)

theorem own : ownKnob Try.prog.godebug = none := by kernel_rfl

theorem asked_yes (s : ByteArray) (w : World) (h1 : s.size ≤ 2000) :
    Calls Try.prog 18 #[.string s, .slice none 0 0] w fun e w' => e = .returned (.bool true) ∧ w = w' := by
  have g1 : decide ((s.size : Int) ≤ 2000) = true := by simp; omega
  go_enter Try.func18, Try.ntmps18
  go_wp2
  go_ret
  exact ⟨rfl, rfl⟩
theorem asked_no (s : ByteArray) (w : World) (h1 : ¬ s.size ≤ 2000) :
    Calls Try.prog 18 #[.string s, .slice none 0 0] w fun e w' => e = .returned (.bool false) ∧ w = w' := by
  have g1 : decide ((s.size : Int) ≤ 2000) = false := by simp; omega
  go_enter Try.func18, Try.ntmps18
  go_wp2
  go_ret
  exact ⟨rfl, rfl⟩
theorem walk (a0 : ByteArray) (w0 : a0.size ≤ maxLen) (w : World) :
    Calls Try.prog 7 #[.string a0] w fun e w' => e = .returned (.bool true) ∧ Below w.heap.size w w' := by
  by_cases h1 : 2147483647 < a0.size
  · go_enter Try.func7, Try.ntmps7
    go_wp2
    go_ret
    exact ⟨rfl, Below.refl _ _⟩
  by_cases h2 : a0.size ≤ 2000
  · go_enter Try.func7, Try.ntmps7
    go_wp2_with fail
    refine (asked_yes _ _ h2).mono ?_
    rintro e w1 ⟨rfl, rfl⟩
    go_wp2_with fail
    refine (raw.write19 _ _ h2).mono ?_
    rintro e w1 ⟨rfl, hb1⟩
    have HB1 := Lib.hid hb1
    clear hb1
    go_wp2_with fail
    refine (raw.write19 _ _ (by decide)).mono ?_
    rintro e w2 ⟨rfl, hb2⟩
    have HB2 := Lib.hid hb2
    clear hb2
    go_wp2
    go_ret
    exact ⟨by simp, HB1.out.trans (HB2.out.mono HB1.out.size)⟩
  · go_enter Try.func7, Try.ntmps7
    go_wp2_with fail
    refine (asked_no _ _ h2).mono ?_
    rintro e w1 ⟨rfl, rfl⟩
    go_wp2
    go_ret
    exact ⟨rfl, Below.refl _ _⟩


/-! ### THE ROW's STEP: WRITTEN OUT: LEAVE IT -/
set_option maxRecDepth 100000 in
theorem lifted (os : Os) (started : os.Started) (H : Type) (enc : TypeId × Value → H) :
    ReturnsInHanded {} Try.checked os 7 .any (Rows.fnRawWriteSpec.pre6 enc Try.prog Try.f7 Rows.fnRawWriteRow.domain false) (Rows.fnRawWriteSpec.post enc Try.prog Try.f7 false true false false) := by
  refine returnsInHanded_of_change (C := Try.checked) own started (by kernel_rfl) Try.func7
    (ChangeSpec.witness6 (enc := enc) (C := Try.checked) false ⟨#[], #[.string ByteArray.empty], []⟩ 8 (by kernel_rfl) (by kernel_rfl) (by kernel_rfl) (by kernel_rfl)) ?_
  intro W base args ds gs before hval0 hW hcnd _
  have hval : ∀ (j : Nat) t v, Try.f7.params[j]? = some t → args[j]? = some v → Value.okWide Try.prog W .any base t v := hval0
  have hW' := hW
  obtain ⟨p, q, hA0, hV, rfl, hfz, hnd⟩ := hW
  have hA : DataW.TrodAll enc Try.prog W 0 (fun _ => true) true Try.f7.params.toList args.toList ds p := hA0
  rw [Try.params7] at hA hval
  obtain ⟨v0, vs0, d0, ds0, p0, q0, hargs, rfl, rfl, h0, r0⟩ := trodAll_cons hA
  obtain ⟨rfl, rfl, rfl⟩ := trodAll_nil r0
  obtain rfl : args = #[v0] := by cases args; simp_all
  obtain ⟨rfl, rfl⟩ := trodVars_none hV
  obtain ⟨a0, rfl, rfl, rfl, w0⟩ := open_string Try.underlying9 (hval 0 9 v0 rfl rfl) h0
  clear hA0 hval0
  simp only [List.append_nil] at hW'
  refine (walk a0 w0 W).mono fun e W' ⟨he, hg⟩ => ?_
  subst he
  exact ⟨_, rfl, _, _, _, [], _, [], hW', (trodAll_cons_mk (shut_bool Try.underlying4 _) trodAll_mk0), (trodAll_cons_mk (shut_string Try.underlying9 w0) trodAll_mk0), rfl, hg.frame _, fun h => by cases h⟩

theorem over : Rows.fnRawWriteRow.holds Try.pinned (OpenSpec.ofChange Rows.fnRawWriteSpec) :=
  OpenClaim.holds_of_wide 7 Try.f7 rfl rfl rfl rfl rfl rfl rfl ⟨rfl, rfl, rfl, rfl, rfl⟩ rfl rfl rfl rfl rfl (by kernel_rfl) Try.func7 (by kernel_rfl)
    (of_decide_eq_true (by kernel_rfl)) (by unfold Func.isWrapper; first | (rw [if_pos (by decide +kernel)]; kernel_rfl) | (rw [if_neg (by decide +kernel)]; exact ⟨rfl, rfl⟩))
    (fun os started H enc _ => lifted os started H enc)

theorem proved : Rows.FnRawWriteSaid :=
  over
#print axioms proved
end Go.Proofs.Ytdlimgghcpbkcaa.fnRawWrite
