/-
  Proved: for every three texts, laws.FnDecodePassed returns true (empty lines, blanks and comments between two texts change nothing but the lines of the faults behind them), tied to the program's text by the given card.
  Conditions: none beyond the given statement's own.
  The frame of the row's step follows the kit's proof-skeleton.mjs and its worked toys; the walks are this session's.
-/
import Derived.Test.YtlcbcgillekphaaGreatDoorCards
import Derived.Test.YtlcbcgillekphaaGreatDoorTie
import Derived.Test.YtlcbcgillekphaaGreatDoorPt3
import Derived.Test.YtlcbcgillekphaaGreatDoorGn
import Derived.OpenShut
import Derived.ShutString
import Derived.SliceStrings
import Derived.LaidMore
import Derived.Lay
import Derived.ChangeArms
import Derived.Below
import Derived.Stop.Joined
import Derived.Deep.DeepHandedRow
import Derived.Deep.DeepWitnessRowRef
namespace Go.Proofs.YtlcbcgillekphaaGreatDoor.fnDecodePassed
open Go.ChangeShapes Go.WideShapes Go.ChangeAt Go.RowKit
open Go.ChangeMaps (open_string shut_string)
set_option linter.unusedVariables false
open Mem

theorem own : ownKnob Tryz.prog.godebug = none := by kernel_rfl

theorem walk (a0 a1 a2 : ByteArray) (w0 : a0.size ≤ maxLen) (w1 : a1.size ≤ maxLen) (w2 : a2.size ≤ maxLen) (w : World) (hC : ∃ ev, dec.Ctx w ev ∧ dec.Ovr w) :
    Calls Tryz.prog 4 #[.string a0, .string a1, .string a2] w fun e w' => e = .returned (.bool true) ∧ Below w.heap.size w w' := by
  obtain ⟨ev, hc, ho⟩ := hC
  exact dec.law4 a0 a1 a2 (by unfold maxLen at w0; omega) (by unfold maxLen at w1; omega) (by unfold maxLen at w2; omega) w ev hc ho
theorem firstIs : Rows.laid_unicode_utf8_first = Lib.firstData := by kernel_rfl
theorem acceptIs : (Rows.laid_unicode_utf8_acceptRanges : DataW Unit) = Lib.acceptData := by kernel_rfl
theorem table {W : World} (h : laidMetH Tryz.prog Rows.fnDecodePassedRow.laid W) : ∃ ev, dec.Ctx W ev ∧ dec.Ovr W := by
  rw [MakeChecks.laidMetH_plain _ _ _ (by kernel_rfl)] at h
  obtain ⟨ev, hev, ho⟩ := dec.laid_both h.tail
  exact ⟨ev, ⟨hev, dec.laid_tabs (firstIs ▸ Lib.laidMet.reads h (.tail _ (.tail _ (.tail _ (.tail _ (.tail _ (.tail _ (.tail _ (.tail _ (.head _))))))))))  (acceptIs ▸ Lib.laidMet.reads h (.head _))⟩, ho⟩

set_option maxRecDepth 100000 in
/-- WHAT THE WALKS GIVE, FOR EVERY ARGUMENT. -/
theorem contract (H : Type) (enc : TypeId × Value → H) (W : World) (base : Nat) (args : Array Value) (ds gs : List (DataW H)) (before : List MemPlace)
    (hval : ∀ (j : Nat) t v, Tryz.f4.params[j]? = some t → args[j]? = some v → Value.okWide Tryz.prog W .any base t v)
    (hW : DataW.Whole enc Tryz.prog Tryz.f4.params.toList Rows.fnDecodePassedSpec.vars false W args.toList ds gs before) (hL : laidMetH Tryz.prog Rows.fnDecodePassedRow.laid W) :
    Calls Tryz.prog 4 args W fun e W' => ∃ v, e = .returned v ∧ Rows.fnDecodePassedSpec.post enc Tryz.prog Tryz.f4 false true false false W args v W' := by
  have hW' := hW
  obtain ⟨p, q, hA0, hV, rfl, hfz, hnd⟩ := hW
  have hA : DataW.TrodAll enc Tryz.prog W 0 (fun _ => true) true Tryz.f4.params.toList args.toList ds p := hA0
  rw [Tryz.params4] at hA hval
  obtain ⟨v0, vs0, d0, ds0, p0, q0, hargs, rfl, rfl, h0, r0⟩ := trodAll_cons hA
  obtain ⟨v1, vs1, d1, ds1, p1, q1, rfl, rfl, rfl, h1, r1⟩ := trodAll_cons r0
  obtain ⟨v2, vs2, d2, ds2, p2, q2, rfl, rfl, rfl, h2, r2⟩ := trodAll_cons r1
  obtain ⟨rfl, rfl, rfl⟩ := trodAll_nil r2
  obtain rfl : args = #[v0, v1, v2] := by cases args; simp_all
  obtain ⟨rfl, rfl⟩ := trodVars_none hV
  obtain ⟨a0, rfl, rfl, rfl, w0⟩ := open_string Tryz.underlying9 (hval 0 9 v0 rfl rfl) h0
  obtain ⟨a1, rfl, rfl, rfl, w1⟩ := open_string Tryz.underlying9 (hval 1 9 v1 rfl rfl) h1
  obtain ⟨a2, rfl, rfl, rfl, w2⟩ := open_string Tryz.underlying9 (hval 2 9 v2 rfl rfl) h2
  clear hA0
  refine (walk a0 a1 a2 w0 w1 w2 W (table hL)).mono fun e W' ⟨he, hg⟩ => ?_
  subst he
  exact ⟨_, rfl, _, _, _, [], _, [], hW', (trodAll_cons_mk (shut_bool Tryz.underlying4 _) trodAll_mk0), (trodAll_cons_mk (shut_string Tryz.underlying9 w0) (trodAll_cons_mk (shut_string Tryz.underlying9 w1) (trodAll_cons_mk (shut_string Tryz.underlying9 w2) trodAll_mk0))), rfl, hg.frame _, fun h => by cases h⟩

noncomputable def wit (os : Os) : World := World.laidAll Tryz.prog os Rows.fnDecodePassedRow.laid
theorem laid_met (os : Os) : laidMet Tryz.prog Rows.fnDecodePassedRow.laid ((wit os).forCall (fun _ _ => 0) ⟨#[], #[.string ByteArray.empty, .string ByteArray.empty, .string ByteArray.empty], []⟩).memory :=
  laidMet_laidAll _ (by kernel_rfl) (by kernel_rfl)
theorem reads (os : Os) {H : Type} (enc : TypeId × Value → H) : ∃ places, DataW.whole enc Tryz.prog ((wit os).forCall (fun _ _ => 0) ⟨#[], #[.string ByteArray.empty, .string ByteArray.empty, .string ByteArray.empty], []⟩).memory Tryz.f4.params.toList Rows.fnDecodePassedSpec.vars false (#[.string ByteArray.empty, .string ByteArray.empty, .string ByteArray.empty] : Array Value).toList 8 = some ([.lit (.string []), .lit (.string []), .lit (.string [])], [], places) :=
  ⟨[], by kernel_rfl⟩

set_option maxRecDepth 100000 in
theorem lifted (os : Os) (started : os.Started) (H : Type) (enc : TypeId × Value → H) (F : Stop.Interp) :
    ReturnsInHanded {} Tryz.checked os 4 .any ((OpenSpec.ofChange Rows.fnDecodePassedSpec).preRow enc Tryz.prog Tryz.f4 Rows.fnDecodePassedRow.domain false Rows.fnDecodePassedRow.laid) (((OpenSpec.ofChange Rows.fnDecodePassedSpec).at F).post enc Tryz.prog Tryz.f4 false true false false) := by
  obtain ⟨places, hx⟩ := reads os enc
  refine returnsInHanded_of_row (C := Tryz.checked) (s := OpenSpec.ofChange Rows.fnDecodePassedSpec) own started (by kernel_rfl) Tryz.func4
    (witness_row_atRef (enc := enc) (C := Tryz.checked) false (wit os) #[.string ByteArray.empty, .string ByteArray.empty, .string ByteArray.empty] rfl (by kernel_rfl) (by kernel_rfl) (by kernel_rfl)
      (OpenSpec.preRow_of_cond 8 hx (by kernel_rfl) (fun k hk => by cases hk) (by kernel_rfl) (laid_met os))) ?_
  intro W base args ds gs before hval hW _ _ _ hL _ _
  exact contract H enc W base args ds gs before hval hW hL

theorem said : Rows.FnDecodePassedSaid :=
  OpenClaim.holds_of_cond 4 Tryz.f4 rfl rfl rfl rfl rfl rfl rfl ⟨rfl, rfl, rfl, rfl, rfl⟩ rfl rfl rfl rfl rfl (by kernel_rfl) Tryz.func4 (by kernel_rfl)
    (of_decide_eq_true (by kernel_rfl)) (by unfold Func.isWrapper; first | (rw [if_pos (by decide +kernel)]; kernel_rfl) | (rw [if_neg (by decide +kernel)]; exact ⟨rfl, rfl⟩))
    (fun os started H enc _ F => by rw [OpenClaim.pre_eq_preRow]; exact lifted os started H enc F)

theorem plain (f : FuncId) (fn : Func) (hf : Tryz.pinned.checked.prog.funcNamed "pub-teleprinter/laws.FnDecodePassed" = some f) (hfn : Tryz.pinned.checked.prog.funcs[f]? = some fn) :
    true = Tryz.pinned.checked.prog.looks [] ∧ ∀ (j : Nat) t, fn.params[j]? = some t → Tryz.pinned.checked.prog.wantsStandIn t = false := by
  obtain rfl : f = 4 := Option.some.inj ((show Tryz.prog.funcNamed "pub-teleprinter/laws.FnDecodePassed" = some 4 by kernel_rfl).symm.trans hf) |>.symm
  obtain rfl : fn = Tryz.f4 := (Option.some.inj (Tryz.func4.symm.trans hfn)).symm
  refine ⟨by kernel_rfl, fun j t ht => ?_⟩
  rw [Tryz.params4] at ht
  obtain rfl : t = 9 := by
    have h := Array.mem_of_getElem? ht
    simp at h
    first | omega | (rcases h with h <;> simp [h])
  · exact (show Tryz.prog.wantsStandIn 9 = false by kernel_rfl)

theorem card : Rows.FnDecodePassedCardSaid :=
  Claim7.holds_tied_plain_at .later [] _ _ _ _ said (fun _ h => by cases h) (by kernel_rfl) (fun _ h => by cases h) fnDecodePassed_row_tie rfl ⟨rfl, rfl⟩ (by kernel_rfl) rfl plain (by kernel_rfl)
#print axioms card
end Go.Proofs.YtlcbcgillekphaaGreatDoor.fnDecodePassed
