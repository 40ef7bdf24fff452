/-
  Proved: for every value and kind, laws.FnValueGet returns true (the accessor of a kind reads a value just if it is of that kind), tied to the program's text by the given card.
  Conditions: none beyond the given statement's own.
  The frame of the row's step follows the kit's proof-skeleton.mjs and its worked toys; the walks are this session's.
-/
import Derived.Test.YtkibdomfiodilaaDoorCards
import Derived.Test.YtkibdomfiodilaaDoorTie
import Derived.Test.YtkibdomfiodilaaDoorValK
import Derived.Test.YtkibdomfiodilaaDoorFld
import Derived.Stop.LaidErr
import Derived.OpenShut
import Derived.ShutString
import Derived.SliceStrings
import Derived.LaidMore
import Derived.Lay
import Derived.ChangeArms
import Derived.Below
import Derived.Stop.Joined
import Derived.Deep.DeepHandedRow
import Derived.Deep.DeepWitnessRowRef
namespace Go.Proofs.YtkibdomfiodilaaDoor.fnValueGet
open Go.ChangeShapes Go.WideShapes Go.ChangeAt Go.RowKit
open Go.ChangeMaps (open_string shut_string)
set_option linter.unusedVariables false
open Mem

theorem own : ownKnob Tryd.prog.godebug = none := by kernel_rfl

theorem laidOut : laidOutB Tryd.prog = true := by kernel_rfl
theorem bits64 {f : Nat} (h : (Lit.float .f64 f).wf = true) : f < 2 ^ 64 := by
  simp [Lit.wf] at h
  omega
theorem walk (k : Int) (s : ByteArray) (n u : Int) (f : Nat) (b : Bool) (kind : Int) (hs : s.size ≤ maxLen) (hn : -9223372036854775808 ≤ n ∧ n ≤ 9223372036854775807) (hf : f < 2 ^ 64) (w : World) (hT : val.Tabs w) :
    Calls Tryd.prog 3 #[.agg #[.int .i64 k, .string s, .int .i64 n, .int .u64 u, .float .f64 f, .bool b], .int .i64 kind] w fun e w' => e = .returned (.bool true) ∧ Below w.heap.size w w' :=
  (val.lawWalk k s n u f b kind hn hf w hT).mono fun e w' h => ⟨h.1, h.2.out⟩
theorem firstIs : Rows.laid_unicode_utf8_first = Lib.firstData := by kernel_rfl
theorem acceptIs : (Rows.laid_unicode_utf8_acceptRanges : DataW Unit) = Lib.acceptData := by kernel_rfl
theorem table {W : World} (h : laidMetH Tryd.prog Rows.fnValueGetRow.laid W) : val.Tabs W := by
  rw [MakeChecks.laidMetH_plain _ _ _ (by kernel_rfl)] at h
  exact utf8Tabs_of_readsT (ρ := Tryd.lays196_ren) (U8Types.of196 Tryd.lays196) ⟨by kernel_rfl, by kernel_rfl, by kernel_rfl, by kernel_rfl, by kernel_rfl, by kernel_rfl, by kernel_rfl⟩ (firstIs ▸ Lib.laidMet.reads h (.tail _ (.head _))) (acceptIs ▸ Lib.laidMet.reads h (.head _))

set_option maxRecDepth 100000 in
/-- WHAT THE WALKS GIVE, FOR EVERY ARGUMENT. -/
theorem contract (H : Type) (enc : TypeId × Value → H) (W : World) (base : Nat) (args : Array Value) (ds gs : List (DataW H)) (before : List MemPlace)
    (hval : ∀ (j : Nat) t v, Tryd.f3.params[j]? = some t → args[j]? = some v → Value.okWide Tryd.prog W .any base t v)
    (hW : DataW.Whole enc Tryd.prog Tryd.f3.params.toList Rows.fnValueGetSpec.vars false W args.toList ds gs before) (hL : laidMetH Tryd.prog Rows.fnValueGetRow.laid W) :
    Calls Tryd.prog 3 args W fun e W' => ∃ v, e = .returned v ∧ Rows.fnValueGetSpec.post enc Tryd.prog Tryd.f3 false true false false W args v W' := by
  have hW' := hW
  obtain ⟨p, q, hA0, hV, rfl, hfz, hnd⟩ := hW
  have hA : DataW.TrodAll enc Tryd.prog W 0 (fun _ => true) true Tryd.f3.params.toList args.toList ds p := hA0
  rw [Tryd.params3] at hA hval
  obtain ⟨v0, vs0, d0, ds0, p0, q0, hargs, rfl, rfl, h0, r0⟩ := trodAll_cons hA
  obtain ⟨v1, vs1, d1, ds1, p1, q1, rfl, rfl, rfl, h1, r1⟩ := trodAll_cons r0
  obtain ⟨rfl, rfl, rfl⟩ := trodAll_nil r1
  obtain rfl : args = #[v0, v1] := by cases args; simp_all
  obtain ⟨rfl, rfl⟩ := trodVars_none hV
  have k0 := h0
  have k1 := h1
  have lt0 : ∀ x ∈ p0, x.block < W.heap.size := by obtain ⟨m, hm⟩ := k0; exact DataW.trod_lt m _ _ _ hm
  have lt1 : ∀ x ∈ p1, x.block < W.heap.size := by obtain ⟨m, hm⟩ := k1; exact DataW.trod_lt m _ _ _ hm
  obtain ⟨cs, n0, rfl, hsz, hfl⟩ := fld.fields_of Tryd.underlying25 (by kernel_rfl) (by kernel_rfl) (hval 0 25 v0 rfl rfl) h0
  obtain ⟨c0, y0, e0, t0⟩ := hfl 0 _ rfl
  obtain ⟨c1, y1, e1, t1⟩ := hfl 1 _ rfl
  obtain ⟨c2, y2, e2, t2⟩ := hfl 2 _ rfl
  obtain ⟨c3, y3, e3, t3⟩ := hfl 3 _ rfl
  obtain ⟨c4, y4, e4, t4⟩ := hfl 4 _ rfl
  obtain ⟨c5, y5, e5, t5⟩ := hfl 5 _ rfl
  obtain ⟨kind0, hc0, _, g0⟩ := DataW.trod_int Tryd.underlying3 t0
  obtain ⟨s, hc1, _, g1⟩ := DataW.trod_string Tryd.underlying9 t1
  obtain ⟨n, hc2, _, g2⟩ := DataW.trod_int Tryd.underlying2 t2
  obtain ⟨u, hc3, _, g3⟩ := DataW.trod_int Tryd.underlying22 t3
  obtain ⟨f, hc4, g4⟩ := fld.trod_float Tryd.underlying23 t4
  obtain ⟨b, hc5, _⟩ := DataW.trod_bool Tryd.underlying4 t5
  obtain rfl : c0 = _ := by simpa using hc0
  obtain rfl : c1 = _ := by simpa using hc1
  obtain rfl : c2 = _ := by simpa using hc2
  obtain rfl : c3 = _ := by simpa using hc3
  obtain rfl : c4 = _ := by simpa using hc4
  obtain rfl : c5 = _ := by simpa using hc5
  obtain rfl : cs = #[.int .i64 kind0, .string s, .int .i64 n, .int .u64 u, .float .f64 f, .bool b] := by
    have hs6 : cs.size = 6 := hsz
    apply Array.ext (by rw [hs6]; rfl)
    intro i hi1 hi2
    have hi : i < 6 := by omega
    have : cs[i]? = (#[.int .i64 kind0, .string s, .int .i64 n, .int .u64 u, .float .f64 f, .bool b] : Array Value)[i]? := by
      match i, hi with
      | 0, _ => exact e0
      | 1, _ => exact e1
      | 2, _ => exact e2
      | 3, _ => exact e3
      | 4, _ => exact e4
      | 5, _ => exact e5
    rw [Array.getElem?_eq_getElem hi1, Array.getElem?_eq_getElem hi2] at this
    exact Option.some.inj this
  obtain ⟨kk, rfl, rfl, rfl, w1⟩ := open_int Tryd.underlying3 (hval 1 3 v1 rfl rfl) h1
  refine (walk kind0 s n u f b kk g1 (by simp [Lit.wf, IntKind.min, IntKind.max, IntKind.signed, IntKind.bits] at g2; exact g2) (bits64 g4) W (table hL)).mono fun e W' ⟨he, hg⟩ => ?_
  subst he
  exact ⟨_, rfl, _, _, _, [], _, [], hW', (trodAll_cons_mk (shut_bool Tryd.underlying4 _) trodAll_mk0), (trodAll_cons_mk (Below.trod laidOut (by kernel_rfl) (of_decide_eq_true (by kernel_rfl)) k0 hg lt0) (trodAll_cons_mk (Below.trod laidOut (by kernel_rfl) (of_decide_eq_true (by kernel_rfl)) k1 hg lt1) trodAll_mk0)), rfl, hg.frame _, fun h => by cases h⟩

noncomputable def wit (os : Os) : World := World.laidAll Tryd.prog os Rows.fnValueGetRow.laid
theorem laid_met (os : Os) : laidMet Tryd.prog Rows.fnValueGetRow.laid ((wit os).forCall (fun _ _ => 0) ⟨#[], #[.agg #[.int .i64 0, .string ByteArray.empty, .int .i64 0, .int .u64 0, .float .f64 0, .bool false], .int .i64 0], []⟩).memory :=
  laidMet_laidAll _ (by kernel_rfl) (by kernel_rfl)
theorem reads (os : Os) {H : Type} (enc : TypeId × Value → H) : ∃ places, DataW.whole enc Tryd.prog ((wit os).forCall (fun _ _ => 0) ⟨#[], #[.agg #[.int .i64 0, .string ByteArray.empty, .int .i64 0, .int .u64 0, .float .f64 0, .bool false], .int .i64 0], []⟩).memory Tryd.f3.params.toList Rows.fnValueGetSpec.vars false (#[.agg #[.int .i64 0, .string ByteArray.empty, .int .i64 0, .int .u64 0, .float .f64 0, .bool false], .int .i64 0] : Array Value).toList 8 = some ([.agg [.lit (.int .i64 0), .lit (.string []), .lit (.int .i64 0), .lit (.int .u64 0), .lit (.float .f64 0), .lit (.bool false)], .lit (.int .i64 0)], [], places) :=
  ⟨[], by kernel_rfl⟩

set_option maxRecDepth 100000 in
theorem lifted (os : Os) (started : os.Started) (H : Type) (enc : TypeId × Value → H) (F : Stop.Interp) :
    ReturnsInHanded {} Tryd.checked os 3 .any ((OpenSpec.ofChange Rows.fnValueGetSpec).preRow enc Tryd.prog Tryd.f3 Rows.fnValueGetRow.domain false Rows.fnValueGetRow.laid) (((OpenSpec.ofChange Rows.fnValueGetSpec).at F).post enc Tryd.prog Tryd.f3 false true false false) := by
  obtain ⟨places, hx⟩ := reads os enc
  refine returnsInHanded_of_row (C := Tryd.checked) (s := OpenSpec.ofChange Rows.fnValueGetSpec) own started (by kernel_rfl) Tryd.func3
    (witness_row_atRef (enc := enc) (C := Tryd.checked) false (wit os) #[.agg #[.int .i64 0, .string ByteArray.empty, .int .i64 0, .int .u64 0, .float .f64 0, .bool false], .int .i64 0] rfl (by kernel_rfl) (by kernel_rfl) (by kernel_rfl)
      (OpenSpec.preRow_of_cond 8 hx (by kernel_rfl) (fun k hk => by cases hk) (by kernel_rfl) (laid_met os))) ?_
  intro W base args ds gs before hval hW _ _ _ hL _ _
  exact contract H enc W base args ds gs before hval hW hL

theorem said : Rows.FnValueGetSaid :=
  OpenClaim.holds_of_cond 3 Tryd.f3 rfl rfl rfl rfl rfl rfl rfl ⟨rfl, rfl, rfl, rfl, rfl⟩ rfl rfl rfl rfl rfl (by kernel_rfl) Tryd.func3 (by kernel_rfl)
    (of_decide_eq_true (by kernel_rfl)) (by unfold Func.isWrapper; first | (rw [if_pos (by decide +kernel)]; kernel_rfl) | (rw [if_neg (by decide +kernel)]; exact ⟨rfl, rfl⟩))
    (fun os started H enc _ F => by rw [OpenClaim.pre_eq_preRow]; exact lifted os started H enc F)

theorem plain (f : FuncId) (fn : Func) (hf : Tryd.pinned.checked.prog.funcNamed "pub-teleprinter/laws.FnValueGet" = some f) (hfn : Tryd.pinned.checked.prog.funcs[f]? = some fn) :
    false = Tryd.pinned.checked.prog.looks [] ∧ ∀ (j : Nat) t, fn.params[j]? = some t → Tryd.pinned.checked.prog.wantsStandIn t = false := by
  obtain rfl : f = 3 := Option.some.inj ((show Tryd.prog.funcNamed "pub-teleprinter/laws.FnValueGet" = some 3 by kernel_rfl).symm.trans hf) |>.symm
  obtain rfl : fn = Tryd.f3 := (Option.some.inj (Tryd.func3.symm.trans hfn)).symm
  refine ⟨by kernel_rfl, fun j t ht => ?_⟩
  rw [Tryd.params3] at ht
  obtain rfl | rfl : t = 25 ∨ t = 3 := by
    have h := Array.mem_of_getElem? ht
    simp at h
    omega
  · exact (show Tryd.prog.wantsStandIn 25 = false by kernel_rfl)
  · exact (show Tryd.prog.wantsStandIn 3 = false by kernel_rfl)

theorem card : Rows.FnValueGetCardSaid :=
  Claim7.holds_tied_plain_at .later [] _ _ _ _ said (fun _ h => by cases h) (by kernel_rfl) (fun _ h => by cases h) fnValueGet_row_tie rfl ⟨rfl, rfl⟩ (by kernel_rfl) rfl plain (by kernel_rfl)
#print axioms card
end Go.Proofs.YtkibdomfiodilaaDoor.fnValueGet
