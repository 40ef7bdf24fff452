/-
  Proved: for every string and every slice of strings, laws.FnScriptTraits returns true (keys and traits of a script).
  Conditions: none beyond the given statement's own.
  The frame of the row's step was written by the kit's proof-skeleton.mjs; the walks are this session's.
-/
import Derived.Test.YtdlimgghcpbkcaaTrc
import Derived.WalkKit
import Derived.ProofKit
import Derived.OpenShut
import Derived.ShutString
import Derived.SliceStrings
import Derived.LaidMore
import Derived.Lay
import Derived.ChangeArms
import Derived.Below
namespace Go.Proofs.Ytdlimgghcpbkcaa.fnScriptTraits
open Go.ChangeShapes Go.WideShapes Go.ChangeAt Go.RowKit
open Go.ChangeMaps (open_string shut_string)
open Mem
set_option linter.unusedVariables false      -- a walk need not use every 'w<i>' (that an integer argument fits its kind)

theorem own : ownKnob Try.prog.godebug = none := by kernel_rfl

theorem laidOut : laidOutB Try.prog = true := by kernel_rfl
theorem walk (a0 : ByteArray) (w0 : a0.size ≤ maxLen) (a : Option Addr) (c : Nat) (ss : List ByteArray) (w : World) (h : strs.Str w a ss) (hn : ss.length ≤ 9223372036854775807) (hz : ∀ s ∈ ss, s.size ≤ 9223372036854775807) :
    Calls Try.prog 6 #[.string a0, .slice a ss.length c] w fun e w' => e = .returned (.bool true) ∧ Below w.heap.size w w' := strs.traits6 a0 w0 a c ss w h hn hz

/-! ### THE ROW's STEP: WRITTEN OUT: LEAVE IT -/
set_option maxRecDepth 100000 in
theorem lifted (os : Os) (started : os.Started) (H : Type) (enc : TypeId × Value → H) :
    ReturnsInHanded {} Try.checked os 6 .any (Rows.fnScriptTraitsSpec.pre6 enc Try.prog Try.f6 Rows.fnScriptTraitsRow.domain false) (Rows.fnScriptTraitsSpec.post enc Try.prog Try.f6 false true false false) := by
  refine returnsInHanded_of_change (C := Try.checked) own started (by kernel_rfl) Try.func6
    (ChangeSpec.witness6 (enc := enc) (C := Try.checked) false ⟨#[], #[.string ByteArray.empty, .slice none 0 0], []⟩ 8 (by kernel_rfl) (by kernel_rfl) (by kernel_rfl) (by kernel_rfl)) ?_
  intro W base args ds gs before hval0 hW hcnd _
  have hval : ∀ (j : Nat) t v, Try.f6.params[j]? = some t → args[j]? = some v → Value.okWide Try.prog W .any base t v := hval0
  have hW' := hW
  obtain ⟨p, q, hA0, hV, rfl, hfz, hnd⟩ := hW
  have hA : DataW.TrodAll enc Try.prog W 0 (fun _ => true) true Try.f6.params.toList args.toList ds p := hA0
  rw [Try.params6] at hA hval
  obtain ⟨v0, vs0, d0, ds0, p0, q0, hargs, rfl, rfl, h0, r0⟩ := trodAll_cons hA
  obtain ⟨v1, vs1, d1, ds1, p1, q1, rfl, rfl, rfl, h1, r1⟩ := trodAll_cons r0
  obtain ⟨rfl, rfl, rfl⟩ := trodAll_nil r1
  obtain rfl : args = #[v0, v1] := by cases args; simp_all
  obtain ⟨rfl, rfl⟩ := trodVars_none hV
  obtain ⟨a0, rfl, rfl, rfl, w0⟩ := open_string Try.underlying9 (hval 0 9 v0 rfl rfl) h0
  obtain ⟨a1, len1, cap1, rfl⟩ := okWide_slice Try.underlying29 (hval 1 29 v1 rfl rfl)
  have k1 := h1
  have lt1 : ∀ x ∈ p1, x.block < W.heap.size := by obtain ⟨m, hm⟩ := k1; exact DataW.trod_lt m _ _ _ hm
  obtain ⟨ss, rfl, hst, hln, hsz, hcp, hno⟩ : ∃ ss : List ByteArray, len1 = ss.length ∧ strs.Str W a1 ss ∧ ss.length ≤ 9223372036854775807 ∧ (∀ s ∈ ss, s.size ≤ 9223372036854775807) ∧ ss.length ≤ cap1 ∧ (a1 = none → ss.length = 0 ∧ cap1 = 0) := by
    obtain ⟨fuel, hf⟩ := h1
    rcases open_strings Try.underlying29 Try.underlying9 (by kernel_rfl) hf with ⟨hcs, _⟩ | ⟨x, l, c, zs, hcs, _, hl, hm, hz, _, hcell, hwz⟩
    · simp [Value.cells] at hcs
      obtain ⟨rfl, rfl, rfl⟩ := hcs
      exact ⟨[], rfl, ⟨.inl rfl⟩, by decide, fun s hs => (by cases hs), Nat.le_refl _, fun _ => ⟨rfl, rfl⟩⟩
    · simp [Value.cells] at hcs
      obtain ⟨rfl, rfl, rfl⟩ := hcs
      have hz' : zs.length = cap1 := by simpa using hz
      have htl : (zs.take len1).length = len1 := by rw [List.length_take]; omega
      unfold maxLen at hm hwz
      refine ⟨zs.take len1, htl.symm, ⟨?_⟩, by omega, fun s hs => (by have := hwz s (List.mem_of_mem_take hs); omega), by omega, fun e => by cases e⟩
      by_cases hl1 : len1 = 0
      · exact .inl (by omega)
      obtain ⟨A, off, spot⟩ := x
      have hspot : spot = none := by
        have := hcell 0 (by omega)
        simpa [Addr.add] using World.cell?_spot this
      subst hspot
      refine .inr ⟨A, off, rfl, fun j s hs => ?_⟩
      have hj := (List.getElem?_eq_some_iff.1 hs).1
      have hc := hcell j (by omega)
      have e : (⟨A, off, none⟩ : Addr).add j = ⟨A, off + j, none⟩ := by unfold Addr.add; split <;> simp_all
      rw [e] at hc
      rw [hc]
      have hj2 : j < len1 := by omega
      rw [List.getElem?_take_of_lt hj2] at hs
      simp [List.getD, hs]
  clear hA0 hval0
  simp only [List.append_nil] at hW'
  refine (walk a0 w0 a1 cap1 ss W hst hln hsz).mono fun e W' ⟨he, hg⟩ => ?_
  subst he
  exact ⟨_, rfl, _, _, _, [], _, [], hW', (trodAll_cons_mk (shut_bool Try.underlying4 _) trodAll_mk0), (trodAll_cons_mk (shut_string Try.underlying9 w0) (trodAll_cons_mk (Below.trod laidOut (by kernel_rfl) (of_decide_eq_true (by kernel_rfl)) k1 hg lt1) trodAll_mk0)), rfl, hg.frame _, fun h => by cases h⟩

theorem over : Rows.fnScriptTraitsRow.holds Try.pinned (OpenSpec.ofChange Rows.fnScriptTraitsSpec) :=
  OpenClaim.holds_of_wide 6 Try.f6 rfl rfl rfl rfl rfl rfl rfl ⟨rfl, rfl, rfl, rfl, rfl⟩ rfl rfl rfl rfl rfl (by kernel_rfl) Try.func6 (by kernel_rfl)
    (of_decide_eq_true (by kernel_rfl)) (by unfold Func.isWrapper; first | (rw [if_pos (by decide +kernel)]; kernel_rfl) | (rw [if_neg (by decide +kernel)]; exact ⟨rfl, rfl⟩))
    (fun os started H enc _ => lifted os started H enc)

theorem proved : Rows.FnScriptTraitsSaid :=
  over
#print axioms proved
end Go.Proofs.Ytdlimgghcpbkcaa.fnScriptTraits
