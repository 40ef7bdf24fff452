/-
  Proved: for every pair of 64-bit numbers, laws.FnIDText returns true (an ID's text and its wire form are the reference's), tied to the program's text by the given card.
  Conditions: none beyond the given statement's own.
  The frame of the row's step follows the kit's proof-skeleton.mjs and its worked toys; the walks are this session's.
-/
import Derived.Test.YtdlimgghcpbkcaaDoorCards
import Derived.Test.YtdlimgghcpbkcaaDoorTie
import Derived.Test.YtdlimgghcpbkcaaDoorIdV
import Derived.Test.YtdlimgghcpbkcaaDoorIdW
import Derived.Lib.SmallJoins
import Derived.Stop.LaidErr
import Derived.OpenShut
import Derived.ShutString
import Derived.SliceStrings
import Derived.LaidMore
import Derived.Lay
import Derived.ChangeArms
import Derived.Below
import Derived.Stop.Joined
import Derived.Deep.DeepHandedRow
import Derived.Deep.DeepWitnessRowRef
namespace Go.Proofs.YtdlimgghcpbkcaaDoor.fnIDText
open Go.ChangeShapes Go.WideShapes Go.ChangeAt Go.RowKit
open Go.ChangeMaps (open_string shut_string)
set_option linter.unusedVariables false
open Mem

theorem own : ownKnob Tryd.prog.godebug = none := by kernel_rfl

theorem laidOut : laidOutB Tryd.prog = true := by kernel_rfl
theorem walk (t q : Nat) (ht : t < 18446744073709551616) (hq : q < 18446744073709551616) (w : World) (hpow : ids.Pow w) :
    Calls Tryd.prog 4 #[.agg #[.int .u64 t, .int .u64 q]] w fun e w' => e = .returned (.bool true) ∧ Below w.heap.size w w' := ids.idWalk t q ht hq w hpow
theorem gP : Tryd.prog.globalNamed "internal/strconv.uint64pow10" = some 3 := by kernel_rfl
theorem gPT : (Tryd.prog.globals[3]?).map (·.type) = some 144 := by kernel_rfl
theorem table {W : World} (h : laidMetH Tryd.prog Rows.fnIDTextRow.laid W) : ids.Pow W := by
  rw [MakeChecks.laidMetH_plain _ _ _ (by kernel_rfl)] at h
  exact Lib.tabIs_of_head gP gPT Tryd.underlying144 Tryd.underlying29 (by kernel_rfl) (by kernel_rfl) (laidMet.tail (laidMet.tail h))

set_option maxRecDepth 100000 in
/-- WHAT THE WALKS GIVE, FOR EVERY ARGUMENT. -/
theorem contract (H : Type) (enc : TypeId × Value → H) (W : World) (base : Nat) (args : Array Value) (ds gs : List (DataW H)) (before : List MemPlace)
    (hval : ∀ (j : Nat) t v, Tryd.f4.params[j]? = some t → args[j]? = some v → Value.okWide Tryd.prog W .any base t v)
    (hW : DataW.Whole enc Tryd.prog Tryd.f4.params.toList Rows.fnIDTextSpec.vars false W args.toList ds gs before) (hL : laidMetH Tryd.prog Rows.fnIDTextRow.laid W) :
    Calls Tryd.prog 4 args W fun e W' => ∃ v, e = .returned v ∧ Rows.fnIDTextSpec.post enc Tryd.prog Tryd.f4 false true false false W args v W' := by
  have hW' := hW
  obtain ⟨p, q, hA0, hV, rfl, hfz, hnd⟩ := hW
  have hA : DataW.TrodAll enc Tryd.prog W 0 (fun _ => true) true Tryd.f4.params.toList args.toList ds p := hA0
  rw [Tryd.params4] at hA hval
  obtain ⟨v0, vs0, d0, ds0, p0, q0, hargs, rfl, rfl, h0, r0⟩ := trodAll_cons hA
  obtain ⟨rfl, rfl, rfl⟩ := trodAll_nil r0
  obtain rfl : args = #[v0] := by cases args; simp_all
  obtain ⟨rfl, rfl⟩ := trodVars_none hV
  have k0 := h0
  have lt0 : ∀ x ∈ p0, x.block < W.heap.size := by obtain ⟨m, hm⟩ := k0; exact DataW.trod_lt m _ _ _ hm
  obtain ⟨c0, c1, y0, y1, n, rfl, hd, hp, e0, e1⟩ := Joins.open_agg2 Tryd.underlying31 (by kernel_rfl) (by kernel_rfl) (hval 0 31 v0 rfl rfl) h0
  obtain ⟨a0, hc0, _, g0⟩ := DataW.trod_int Tryd.underlying29 e0
  obtain ⟨a1, hc1, _, g1⟩ := DataW.trod_int Tryd.underlying29 e1
  obtain rfl : c0 = _ := by simpa using hc0
  obtain rfl : c1 = _ := by simpa using hc1
  simp [Lit.wf, IntKind.min, IntKind.max, IntKind.signed, IntKind.bits] at g0 g1
  obtain ⟨m0, rfl⟩ : ∃ m : Nat, a0 = m := ⟨a0.toNat, by omega⟩
  obtain ⟨m1, rfl⟩ : ∃ m : Nat, a1 = m := ⟨a1.toNat, by omega⟩
  refine (walk m0 m1 (by omega) (by omega) W (table hL)).mono fun e W' ⟨he, hg⟩ => ?_
  subst he
  exact ⟨_, rfl, _, _, _, [], _, [], hW', (trodAll_cons_mk (shut_bool Tryd.underlying4 _) trodAll_mk0), (trodAll_cons_mk (Below.trod laidOut (by kernel_rfl) (of_decide_eq_true (by kernel_rfl)) k0 hg lt0) trodAll_mk0), rfl, hg.frame _, fun h => by cases h⟩

noncomputable def wit (os : Os) : World := World.laidAll Tryd.prog os Rows.fnIDTextRow.laid
theorem laid_met (os : Os) : laidMet Tryd.prog Rows.fnIDTextRow.laid ((wit os).forCall (fun _ _ => 0) ⟨#[], #[.agg #[.int .u64 0, .int .u64 0]], []⟩).memory :=
  laidMet_laidAll _ (by kernel_rfl) (by kernel_rfl)
theorem reads (os : Os) {H : Type} (enc : TypeId × Value → H) : ∃ places, DataW.whole enc Tryd.prog ((wit os).forCall (fun _ _ => 0) ⟨#[], #[.agg #[.int .u64 0, .int .u64 0]], []⟩).memory Tryd.f4.params.toList Rows.fnIDTextSpec.vars false (#[.agg #[.int .u64 0, .int .u64 0]] : Array Value).toList 8 = some ([.agg [.lit (.int .u64 0), .lit (.int .u64 0)]], [], places) :=
  ⟨[], by kernel_rfl⟩

set_option maxRecDepth 100000 in
theorem lifted (os : Os) (started : os.Started) (H : Type) (enc : TypeId × Value → H) (F : Stop.Interp) :
    ReturnsInHanded {} Tryd.checked os 4 .any ((OpenSpec.ofChange Rows.fnIDTextSpec).preRow enc Tryd.prog Tryd.f4 Rows.fnIDTextRow.domain false Rows.fnIDTextRow.laid) (((OpenSpec.ofChange Rows.fnIDTextSpec).at F).post enc Tryd.prog Tryd.f4 false true false false) := by
  obtain ⟨places, hx⟩ := reads os enc
  refine returnsInHanded_of_row (C := Tryd.checked) (s := OpenSpec.ofChange Rows.fnIDTextSpec) own started (by kernel_rfl) Tryd.func4
    (witness_row_atRef (enc := enc) (C := Tryd.checked) false (wit os) #[.agg #[.int .u64 0, .int .u64 0]] rfl (by kernel_rfl) (by kernel_rfl) (by kernel_rfl)
      (OpenSpec.preRow_of_cond 8 hx (by kernel_rfl) (fun k hk => by cases hk) (by kernel_rfl) (laid_met os))) ?_
  intro W base args ds gs before hval hW _ _ _ hL _ _
  exact contract H enc W base args ds gs before hval hW hL

theorem said : Rows.FnIDTextSaid :=
  OpenClaim.holds_of_cond 4 Tryd.f4 rfl rfl rfl rfl rfl rfl rfl ⟨rfl, rfl, rfl, rfl, rfl⟩ rfl rfl rfl rfl rfl (by kernel_rfl) Tryd.func4 (by kernel_rfl)
    (of_decide_eq_true (by kernel_rfl)) (by unfold Func.isWrapper; first | (rw [if_pos (by decide +kernel)]; kernel_rfl) | (rw [if_neg (by decide +kernel)]; exact ⟨rfl, rfl⟩))
    (fun os started H enc _ F => by rw [OpenClaim.pre_eq_preRow]; exact lifted os started H enc F)

theorem plain (f : FuncId) (fn : Func) (hf : Tryd.pinned.checked.prog.funcNamed "pub-teleprinter/laws.FnIDText" = some f) (hfn : Tryd.pinned.checked.prog.funcs[f]? = some fn) :
    true = Tryd.pinned.checked.prog.looks [] ∧ ∀ (j : Nat) t, fn.params[j]? = some t → Tryd.pinned.checked.prog.wantsStandIn t = false := by
  obtain rfl : f = 4 := Option.some.inj ((show Tryd.prog.funcNamed "pub-teleprinter/laws.FnIDText" = some 4 by kernel_rfl).symm.trans hf) |>.symm
  obtain rfl : fn = Tryd.f4 := (Option.some.inj (Tryd.func4.symm.trans hfn)).symm
  refine ⟨by kernel_rfl, fun j t ht => ?_⟩
  rw [Tryd.params4] at ht
  obtain rfl : t = 31 := by
    have h := Array.mem_of_getElem? ht
    simp at h
    omega
  · exact (show Tryd.prog.wantsStandIn 31 = false by kernel_rfl)

theorem card : Rows.FnIDTextCardSaid :=
  Claim7.holds_tied_plain_at .later [] _ _ _ _ said (fun _ h => by cases h) (by kernel_rfl) (fun _ h => by cases h) fnIDText_row_tie rfl ⟨rfl, rfl⟩ (by kernel_rfl) rfl plain (by kernel_rfl)
#print axioms card
end Go.Proofs.YtdlimgghcpbkcaaDoor.fnIDText
