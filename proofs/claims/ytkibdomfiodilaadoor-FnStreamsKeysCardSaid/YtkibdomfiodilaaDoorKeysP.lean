/-
  Proved: for every slice of strings, laws.FnStreamsKeys returns true (the keys among the arguments of a command that reads streams are the first half of those behind the first STREAMS), tied to the program's text by the given card.
  Conditions: none beyond the given statement's own.
  The frame of the row's step follows the kit's proof-skeleton.mjs and its worked toys; the walks are this session's.
-/
import Derived.Test.YtkibdomfiodilaaDoorCards
import Derived.Test.YtkibdomfiodilaaDoorTie
import Derived.Test.YtkibdomfiodilaaDoorKeysV
import Derived.OpenShut
import Derived.ShutString
import Derived.SliceStrings
import Derived.LaidMore
import Derived.Lay
import Derived.ChangeArms
import Derived.Below
import Derived.Stop.Joined
import Derived.Deep.DeepHandedRow
import Derived.Deep.DeepWitnessRowRef
namespace Go.Proofs.YtkibdomfiodilaaDoor.fnStreamsKeys
open Go.ChangeShapes Go.WideShapes Go.ChangeAt Go.RowKit
open Go.ChangeMaps (open_string shut_string)
set_option linter.unusedVariables false
open Mem

theorem own : ownKnob Tryd.prog.godebug = none := by kernel_rfl

theorem laidOut : laidOutB Tryd.prog = true := by kernel_rfl
theorem walk (a : Option Addr) (cap : Nat) (ss : List ByteArray) (w : World) (h : strs.Str w a ss) (hn : ss.length ≤ 9223372036854775807) (hz : ∀ s ∈ ss, s.size ≤ 9223372036854775807) (hcap : ss.length ≤ cap) (hnone : a = none → ss.length = 0 ∧ cap = 0) :
    Calls Tryd.prog 6 #[.slice a ss.length cap] w fun e w' => e = .returned (.bool true) ∧ Below w.heap.size w w' := strs.keysWalk a cap ss w h hn hz hcap hnone


set_option maxRecDepth 100000 in
/-- WHAT THE WALKS GIVE, FOR EVERY ARGUMENT. -/
theorem contract (H : Type) (enc : TypeId × Value → H) (W : World) (base : Nat) (args : Array Value) (ds gs : List (DataW H)) (before : List MemPlace)
    (hval : ∀ (j : Nat) t v, Tryd.f6.params[j]? = some t → args[j]? = some v → Value.okWide Tryd.prog W .any base t v)
    (hW : DataW.Whole enc Tryd.prog Tryd.f6.params.toList Rows.fnStreamsKeysSpec.vars false W args.toList ds gs before) (hL : laidMetH Tryd.prog Rows.fnStreamsKeysRow.laid W) :
    Calls Tryd.prog 6 args W fun e W' => ∃ v, e = .returned v ∧ Rows.fnStreamsKeysSpec.post enc Tryd.prog Tryd.f6 false true false false W args v W' := by
  have hW' := hW
  obtain ⟨p, q, hA0, hV, rfl, hfz, hnd⟩ := hW
  have hA : DataW.TrodAll enc Tryd.prog W 0 (fun _ => true) true Tryd.f6.params.toList args.toList ds p := hA0
  rw [Tryd.params6] at hA hval
  obtain ⟨v0, vs0, d0, ds0, p0, q0, hargs, rfl, rfl, h0, r0⟩ := trodAll_cons hA
  obtain ⟨rfl, rfl, rfl⟩ := trodAll_nil r0
  obtain rfl : args = #[v0] := by cases args; simp_all
  obtain ⟨rfl, rfl⟩ := trodVars_none hV
  obtain ⟨a0, len0, cap0, rfl⟩ := okWide_slice Tryd.underlying37 (hval 0 37 v0 rfl rfl)
  have k0 := h0
  have lt0 : ∀ x ∈ p0, x.block < W.heap.size := by obtain ⟨m, hm⟩ := k0; exact DataW.trod_lt m _ _ _ hm
  obtain ⟨ss, rfl, hst, hln, hsz, hcp, hno⟩ : ∃ ss : List ByteArray, len0 = ss.length ∧ strs.Str W a0 ss ∧ ss.length ≤ 9223372036854775807 ∧ (∀ s ∈ ss, s.size ≤ 9223372036854775807) ∧ ss.length ≤ cap0 ∧ (a0 = none → ss.length = 0 ∧ cap0 = 0) := by
    obtain ⟨fuel, hf⟩ := h0
    rcases open_strings Tryd.underlying37 Tryd.underlying9 (by kernel_rfl) hf with ⟨hcs, _⟩ | ⟨x, l, c, zs, hcs, _, hl, hm, hz, _, hcell, hwz⟩
    · simp [Value.cells] at hcs
      obtain ⟨rfl, rfl, rfl⟩ := hcs
      exact ⟨[], rfl, ⟨.inl rfl⟩, by decide, fun s hs => (by cases hs), Nat.le_refl _, fun _ => ⟨rfl, rfl⟩⟩
    · simp [Value.cells] at hcs
      obtain ⟨rfl, rfl, rfl⟩ := hcs
      have hz' : zs.length = cap0 := by simpa using hz
      have htl : (zs.take len0).length = len0 := by rw [List.length_take]; omega
      unfold maxLen at hm hwz
      refine ⟨zs.take len0, htl.symm, ⟨?_⟩, by omega, fun s hs => (by have := hwz s (List.mem_of_mem_take hs); omega), by omega, fun e => by cases e⟩
      by_cases hl0 : len0 = 0
      · exact .inl (by omega)
      obtain ⟨A, off, spot⟩ := x
      have hspot : spot = none := by
        have := hcell 0 (by omega)
        simpa [Addr.add] using World.cell?_spot this
      subst hspot
      refine .inr ⟨A, off, rfl, fun j s hs => ?_⟩
      have hj := (List.getElem?_eq_some_iff.1 hs).1
      have hc := hcell j (by omega)
      have e : (⟨A, off, none⟩ : Addr).add j = ⟨A, off + j, none⟩ := by unfold Addr.add; split <;> simp_all
      rw [e] at hc
      rw [hc]
      have hj2 : j < len0 := by omega
      rw [List.getElem?_take_of_lt hj2] at hs
      simp [List.getD, hs]
  refine (walk a0 cap0 ss W hst hln hsz hcp hno).mono fun e W' ⟨he, hg⟩ => ?_
  subst he
  exact ⟨_, rfl, _, _, _, [], _, [], hW', (trodAll_cons_mk (shut_bool Tryd.underlying4 _) trodAll_mk0), (trodAll_cons_mk (Below.trod laidOut (by kernel_rfl) (of_decide_eq_true (by kernel_rfl)) k0 hg lt0) trodAll_mk0), rfl, hg.frame _, fun h => by cases h⟩

noncomputable def wit (os : Os) : World := World.laidAll Tryd.prog os Rows.fnStreamsKeysRow.laid
theorem laid_met (os : Os) : laidMet Tryd.prog Rows.fnStreamsKeysRow.laid ((wit os).forCall (fun _ _ => 0) ⟨#[], #[.slice none 0 0], []⟩).memory :=
  laidMet_laidAll _ (by kernel_rfl) (by kernel_rfl)
theorem reads (os : Os) {H : Type} (enc : TypeId × Value → H) : ∃ places, DataW.whole enc Tryd.prog ((wit os).forCall (fun _ _ => 0) ⟨#[], #[.slice none 0 0], []⟩).memory Tryd.f6.params.toList Rows.fnStreamsKeysSpec.vars false (#[.slice none 0 0] : Array Value).toList 8 = some ([.nil], [], places) :=
  ⟨[], by kernel_rfl⟩

set_option maxRecDepth 100000 in
theorem lifted (os : Os) (started : os.Started) (H : Type) (enc : TypeId × Value → H) (F : Stop.Interp) :
    ReturnsInHanded {} Tryd.checked os 6 .any ((OpenSpec.ofChange Rows.fnStreamsKeysSpec).preRow enc Tryd.prog Tryd.f6 Rows.fnStreamsKeysRow.domain false Rows.fnStreamsKeysRow.laid) (((OpenSpec.ofChange Rows.fnStreamsKeysSpec).at F).post enc Tryd.prog Tryd.f6 false true false false) := by
  obtain ⟨places, hx⟩ := reads os enc
  refine returnsInHanded_of_row (C := Tryd.checked) (s := OpenSpec.ofChange Rows.fnStreamsKeysSpec) own started (by kernel_rfl) Tryd.func6
    (witness_row_atRef (enc := enc) (C := Tryd.checked) false (wit os) #[.slice none 0 0] rfl (by kernel_rfl) (by kernel_rfl) (by kernel_rfl)
      (OpenSpec.preRow_of_cond 8 hx (by kernel_rfl) (fun k hk => by cases hk) (by kernel_rfl) (laid_met os))) ?_
  intro W base args ds gs before hval hW _ _ _ hL _ _
  exact contract H enc W base args ds gs before hval hW hL

theorem said : Rows.FnStreamsKeysSaid :=
  OpenClaim.holds_of_cond 6 Tryd.f6 rfl rfl rfl rfl rfl rfl rfl ⟨rfl, rfl, rfl, rfl, rfl⟩ rfl rfl rfl rfl rfl (by kernel_rfl) Tryd.func6 (by kernel_rfl)
    (of_decide_eq_true (by kernel_rfl)) (by unfold Func.isWrapper; first | (rw [if_pos (by decide +kernel)]; kernel_rfl) | (rw [if_neg (by decide +kernel)]; exact ⟨rfl, rfl⟩))
    (fun os started H enc _ F => by rw [OpenClaim.pre_eq_preRow]; exact lifted os started H enc F)

theorem plain (f : FuncId) (fn : Func) (hf : Tryd.pinned.checked.prog.funcNamed "pub-teleprinter/laws.FnStreamsKeys" = some f) (hfn : Tryd.pinned.checked.prog.funcs[f]? = some fn) :
    false = Tryd.pinned.checked.prog.looks [] ∧ ∀ (j : Nat) t, fn.params[j]? = some t → Tryd.pinned.checked.prog.wantsStandIn t = false := by
  obtain rfl : f = 6 := Option.some.inj ((show Tryd.prog.funcNamed "pub-teleprinter/laws.FnStreamsKeys" = some 6 by kernel_rfl).symm.trans hf) |>.symm
  obtain rfl : fn = Tryd.f6 := (Option.some.inj (Tryd.func6.symm.trans hfn)).symm
  refine ⟨by kernel_rfl, fun j t ht => ?_⟩
  rw [Tryd.params6] at ht
  obtain rfl : t = 37 := by
    have h := Array.mem_of_getElem? ht
    simp at h
    omega
  · exact (show Tryd.prog.wantsStandIn 37 = false by kernel_rfl)

theorem card : Rows.FnStreamsKeysCardSaid :=
  Claim7.holds_tied_plain_at .later [] _ _ _ _ said (fun _ h => by cases h) (by kernel_rfl) (fun _ h => by cases h) fnStreamsKeys_row_tie rfl ⟨rfl, rfl⟩ (by kernel_rfl) rfl plain (by kernel_rfl)
#print axioms card
end Go.Proofs.YtkibdomfiodilaaDoor.fnStreamsKeys
