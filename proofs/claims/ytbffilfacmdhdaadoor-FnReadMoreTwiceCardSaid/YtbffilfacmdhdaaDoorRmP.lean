/-
  Proved: for every two texts, two numbers and list of sizes, laws.FnReadMoreTwice returns true (so many bytes, and then so many more, are the same as both at once), tied to the program's text by the given card.
  Conditions: none beyond the given statement's own.
  The frame of the row's step follows the kit's proof-skeleton.mjs and its worked toys; the walks are this session's.
-/
import Derived.Test.YtbffilfacmdhdaaDoorCards
import Derived.Test.YtbffilfacmdhdaaDoorTie
import Derived.Test.YtbffilfacmdhdaaDoorRf6
import Derived.OpenShut
import Derived.ShutString
import Derived.SliceStrings
import Derived.LaidMore
import Derived.Lay
import Derived.ChangeArms
import Derived.Below
import Derived.Stop.Joined
import Derived.Deep.DeepHandedRow
import Derived.Deep.DeepWitnessRowRef
namespace Go.Proofs.YtbffilfacmdhdaaDoor.fnReadMoreTwice
open Go.ChangeShapes Go.WideShapes Go.ChangeAt Go.RowKit
open Go.ChangeMaps (open_string shut_string)
set_option linter.unusedVariables false
open Mem

theorem own : ownKnob Tryd.prog.godebug = none := by kernel_rfl

theorem laidOut : laidOutB Tryd.prog = true := by kernel_rfl
/-- What the walk is told of a slice of integers that came in. -/
def IsRow (k : IntKind) (w : World) (a : Option Addr) (len cap : Nat) (zs : List Int) : Prop :=
  (a = none ∧ len = 0 ∧ cap = 0 ∧ zs = []) ∨
  ∃ x, a = some x ∧ len ≤ cap ∧ cap ≤ maxLen ∧ zs.length = cap ∧ (∀ i, i < zs.length → w.cell? (x.add i) = some (.int k (zs.getD i 0))) ∧ ∀ n ∈ zs, (Lit.int k n).wf = true
theorem walk (a0 a1 : ByteArray) (a2 a3 : Int) (a4 : Option Addr) (len4 cap4 : Nat) (z4 : List Int) (w : World) (w0 : a0.size ≤ maxLen) (w1 : a1.size ≤ maxLen) (w2 : (Lit.int .i64 a2).wf = true) (w3 : (Lit.int .i64 a3).wf = true) (w4 : IsRow .i64 w a4 len4 cap4 z4) :
    Calls Tryd.prog 3 #[.string a0, .string a1, .int .i64 a2, .int .i64 a3, .slice a4 len4 cap4] w fun e w' => e = .returned (.bool true) ∧ Below w.heap.size w w' := by
  have hs : a0.size ≤ 9223372036854775807 := by unfold maxLen at w0; omega
  have hd : a1.size ≤ 9223372036854775807 := by unfold maxLen at w1; omega
  simp [Lit.wf, IntKind.min, IntKind.max, IntKind.signed, IntKind.bits] at w2 w3
  rcases w4 with ⟨rfl, rfl, rfl, rfl⟩ | ⟨x, rfl, h1, h2, h3, h4, h5⟩
  · exact dec.law3 a0 a1 hs hd a2 a3 (by omega) (by omega) none [] 0 w (fun j z h => by simp at h) (by simp) (by simp)
  · have hl : (z4.take len4).length = len4 := by rw [List.length_take]; omega
    unfold maxLen at h2
    have := dec.law3 a0 a1 hs hd a2 a3 (by omega) (by omega) (some x) (z4.take len4) cap4 w (fun j z h => by
      have hj : j < len4 := by have := (List.getElem?_eq_some_iff.1 h).1; omega
      rw [List.getElem?_take, if_pos hj] at h
      obtain ⟨b, o, spot⟩ := x
      have hs0 : spot = none := by
        have := h4 0 (by omega)
        simpa [Addr.add] using World.cell?_spot this
      subst hs0
      have hc4 := h4 j (by omega)
      rw [List.getD_eq_getElem?_getD, h] at hc4
      have e : (⟨b, o, none⟩ : Addr).add j = ⟨b, o + j, none⟩ := by unfold Addr.add; split <;> simp_all
      rw [e] at hc4
      exact ⟨b, o, rfl, hc4⟩) (fun z hz => by
        have := h5 z (List.mem_of_mem_take hz)
        simp [Lit.wf, IntKind.min, IntKind.max, IntKind.signed, IntKind.bits] at this
        omega) (by omega)
    rw [hl] at this
    exact this

set_option maxRecDepth 100000 in
/-- WHAT THE WALKS GIVE, FOR EVERY ARGUMENT. -/
theorem contract (H : Type) (enc : TypeId × Value → H) (W : World) (base : Nat) (args : Array Value) (ds gs : List (DataW H)) (before : List MemPlace)
    (hval : ∀ (j : Nat) t v, Tryd.f3.params[j]? = some t → args[j]? = some v → Value.okWide Tryd.prog W .any base t v)
    (hW : DataW.Whole enc Tryd.prog Tryd.f3.params.toList Rows.fnReadMoreTwiceSpec.vars false W args.toList ds gs before) (hL : laidMetH Tryd.prog Rows.fnReadMoreTwiceRow.laid W) :
    Calls Tryd.prog 3 args W fun e W' => ∃ v, e = .returned v ∧ Rows.fnReadMoreTwiceSpec.post enc Tryd.prog Tryd.f3 false true false false W args v W' := by
  have hW' := hW
  obtain ⟨p, q, hA0, hV, rfl, hfz, hnd⟩ := hW
  have hA : DataW.TrodAll enc Tryd.prog W 0 (fun _ => true) true Tryd.f3.params.toList args.toList ds p := hA0
  rw [Tryd.params3] at hA hval
  obtain ⟨v0, vs0, d0, ds0, p0, q0, hargs, rfl, rfl, h0, r0⟩ := trodAll_cons hA
  obtain ⟨v1, vs1, d1, ds1, p1, q1, rfl, rfl, rfl, h1, r1⟩ := trodAll_cons r0
  obtain ⟨v2, vs2, d2, ds2, p2, q2, rfl, rfl, rfl, h2, r2⟩ := trodAll_cons r1
  obtain ⟨v3, vs3, d3, ds3, p3, q3, rfl, rfl, rfl, h3, r3⟩ := trodAll_cons r2
  obtain ⟨v4, vs4, d4, ds4, p4, q4, rfl, rfl, rfl, h4, r4⟩ := trodAll_cons r3
  obtain ⟨rfl, rfl, rfl⟩ := trodAll_nil r4
  obtain rfl : args = #[v0, v1, v2, v3, v4] := by cases args; simp_all
  obtain ⟨rfl, rfl⟩ := trodVars_none hV
  obtain ⟨a0, rfl, rfl, rfl, w0⟩ := open_string Tryd.underlying9 (hval 0 9 v0 rfl rfl) h0
  obtain ⟨a1, rfl, rfl, rfl, w1⟩ := open_string Tryd.underlying9 (hval 1 9 v1 rfl rfl) h1
  obtain ⟨a2, rfl, rfl, rfl, w2⟩ := open_int Tryd.underlying3 (hval 2 3 v2 rfl rfl) h2
  obtain ⟨a3, rfl, rfl, rfl, w3⟩ := open_int Tryd.underlying3 (hval 3 3 v3 rfl rfl) h3
  obtain ⟨a4, len4, cap4, rfl⟩ := okWide_slice Tryd.underlying22 (hval 4 22 v4 rfl rfl)
  have k4 := h4
  have lt4 : ∀ x ∈ p4, x.block < W.heap.size := by obtain ⟨m, hm⟩ := k4; exact DataW.trod_lt m _ _ _ hm
  obtain ⟨z4, w4⟩ : ∃ zs, IsRow .i64 W a4 len4 cap4 zs := by
    obtain ⟨fuel, hf⟩ := h4
    rcases open_ints Tryd.underlying22 Tryd.underlying3 (by kernel_rfl) hf with ⟨hcs, _⟩ | ⟨x, l, c, zs, hcs, _, hl, hm, hz, _, hcell, hwz⟩
    · simp [Value.cells] at hcs
      obtain ⟨rfl, rfl, rfl⟩ := hcs
      exact ⟨[], .inl ⟨rfl, rfl, rfl, rfl⟩⟩
    · simp [Value.cells] at hcs
      obtain ⟨rfl, rfl, rfl⟩ := hcs
      exact ⟨zs, .inr ⟨_, rfl, hl, hm, by simpa using hz, hcell, hwz⟩⟩
  clear hA0
  refine (walk a0 a1 a2 a3 a4 len4 cap4 z4 W w0 w1 w2 w3 w4).mono fun e W' ⟨he, hg⟩ => ?_
  subst he
  exact ⟨_, rfl, _, _, _, [], _, [], hW', trodAll_mk1 (shut_bool Tryd.underlying4 _), (trodAll_cons_mk (shut_string Tryd.underlying9 w0) (trodAll_cons_mk (shut_string Tryd.underlying9 w1) (trodAll_cons_mk (shut_int Tryd.underlying3 w2) (trodAll_cons_mk (shut_int Tryd.underlying3 w3) (trodAll_cons_mk (Below.trod laidOut (by kernel_rfl) (of_decide_eq_true (by kernel_rfl)) k4 hg lt4) trodAll_mk0))))), rfl, hg.frame _, fun h => by cases h⟩

noncomputable def wit (os : Os) : World := World.laidAll Tryd.prog os Rows.fnReadMoreTwiceRow.laid
theorem laid_met (os : Os) : laidMet Tryd.prog Rows.fnReadMoreTwiceRow.laid ((wit os).forCall (fun _ _ => 0) ⟨#[], #[.string ByteArray.empty, .string ByteArray.empty, .int .i64 0, .int .i64 0, .slice none 0 0], []⟩).memory :=
  laidMet_laidAll _ (by kernel_rfl) (by kernel_rfl)
theorem reads (os : Os) {H : Type} (enc : TypeId × Value → H) : ∃ places, DataW.whole enc Tryd.prog ((wit os).forCall (fun _ _ => 0) ⟨#[], #[.string ByteArray.empty, .string ByteArray.empty, .int .i64 0, .int .i64 0, .slice none 0 0], []⟩).memory Tryd.f3.params.toList Rows.fnReadMoreTwiceSpec.vars false (#[.string ByteArray.empty, .string ByteArray.empty, .int .i64 0, .int .i64 0, .slice none 0 0] : Array Value).toList 8 = some ([.lit (.string []), .lit (.string []), .lit (.int .i64 0), .lit (.int .i64 0), .nil], [], places) :=
  ⟨[], by kernel_rfl⟩

set_option maxRecDepth 100000 in
theorem lifted (os : Os) (started : os.Started) (H : Type) (enc : TypeId × Value → H) (F : Stop.Interp) :
    ReturnsInHanded {} Tryd.checked os 3 .any ((OpenSpec.ofChange Rows.fnReadMoreTwiceSpec).preRow enc Tryd.prog Tryd.f3 Rows.fnReadMoreTwiceRow.domain false Rows.fnReadMoreTwiceRow.laid) (((OpenSpec.ofChange Rows.fnReadMoreTwiceSpec).at F).post enc Tryd.prog Tryd.f3 false true false false) := by
  obtain ⟨places, hx⟩ := reads os enc
  refine returnsInHanded_of_row (C := Tryd.checked) (s := OpenSpec.ofChange Rows.fnReadMoreTwiceSpec) own started (by kernel_rfl) Tryd.func3
    (witness_row_atRef (enc := enc) (C := Tryd.checked) false (wit os) #[.string ByteArray.empty, .string ByteArray.empty, .int .i64 0, .int .i64 0, .slice none 0 0] rfl (by kernel_rfl) (by kernel_rfl) (by kernel_rfl)
      (OpenSpec.preRow_of_cond 8 hx (by kernel_rfl) (fun k hk => by cases hk) (by kernel_rfl) (laid_met os))) ?_
  intro W base args ds gs before hval hW _ _ _ hL _ _
  exact contract H enc W base args ds gs before hval hW hL

theorem said : Rows.FnReadMoreTwiceSaid :=
  OpenClaim.holds_of_cond 3 Tryd.f3 rfl rfl rfl rfl rfl rfl rfl ⟨rfl, rfl, rfl, rfl, rfl⟩ rfl rfl rfl rfl rfl (by kernel_rfl) Tryd.func3 (by kernel_rfl)
    (of_decide_eq_true (by kernel_rfl)) (by unfold Func.isWrapper; first | (rw [if_pos (by decide +kernel)]; kernel_rfl) | (rw [if_neg (by decide +kernel)]; exact ⟨rfl, rfl⟩))
    (fun os started H enc _ F => by rw [OpenClaim.pre_eq_preRow]; exact lifted os started H enc F)

theorem plain (f : FuncId) (fn : Func) (hf : Tryd.pinned.checked.prog.funcNamed "pub-teleprinter/laws.FnReadMoreTwice" = some f) (hfn : Tryd.pinned.checked.prog.funcs[f]? = some fn) :
    true = Tryd.pinned.checked.prog.looks [] ∧ ∀ (j : Nat) t, fn.params[j]? = some t → Tryd.pinned.checked.prog.wantsStandIn t = false := by
  obtain rfl : f = 3 := Option.some.inj ((show Tryd.prog.funcNamed "pub-teleprinter/laws.FnReadMoreTwice" = some 3 by kernel_rfl).symm.trans hf) |>.symm
  obtain rfl : fn = Tryd.f3 := (Option.some.inj (Tryd.func3.symm.trans hfn)).symm
  refine ⟨by kernel_rfl, fun j t ht => ?_⟩
  rw [Tryd.params3] at ht
  obtain rfl | rfl | rfl : t = 22 ∨ t = 3 ∨ t = 9 := by
    have h := Array.mem_of_getElem? ht
    simp at h
    first | omega | (rcases h with h | h | h <;> simp [h])
  · exact (show Tryd.prog.wantsStandIn 22 = false by kernel_rfl)
  · exact (show Tryd.prog.wantsStandIn 3 = false by kernel_rfl)
  · exact (show Tryd.prog.wantsStandIn 9 = false by kernel_rfl)

theorem card : Rows.FnReadMoreTwiceCardSaid :=
  Claim7.holds_tied_plain_at .later [] _ _ _ _ said (fun _ h => by cases h) (by kernel_rfl) (fun _ h => by cases h) fnReadMoreTwice_row_tie rfl ⟨rfl, rfl⟩ (by kernel_rfl) rfl plain (by kernel_rfl)
#print axioms card
end Go.Proofs.YtbffilfacmdhdaaDoor.fnReadMoreTwice
