/-
  Proved: for every string, laws.FnKindUnmarshal returns true (a text of at most 100 bytes is unmarshalled as a kind just if it is the name of one that is not unknown), tied to the program's text by the given card.
  Conditions: none beyond the given statement's own (the table of the kinds' names reads as its initialiser lays it).
  The frame of the row's step follows the kit's worked toy UptoLaidToy.lean; the walks are this session's.
-/
import Derived.Test.YtciicifdehicgaaDoorCards
import Derived.Test.YtciicifdehicgaaDoorTie
import Derived.Test.YtciicifdehicgaaDoorKindW
import Derived.OpenShut
import Derived.ShutString
import Derived.SliceStrings
import Derived.LaidMore
import Derived.Stop.Joined
import Derived.Deep.DeepHandedRow
import Derived.Deep.DeepWitnessRowRef
namespace Go.Proofs.YtciicifdehicgaaDoor.fnKindUnmarshal
open Go.ChangeShapes Go.WideShapes Go.ChangeAt Go.RowKit
open Go.ChangeMaps (open_string shut_string)
set_option linter.unusedVariables false
open Mem

theorem own : ownKnob Tryd.prog.godebug = none := by kernel_rfl

/-- What the loop has found ahead of kind number k. -/
def wantAt (s : ByteArray) (k : Nat) : Nat := if kind.kindOf s < k then kind.kindOf s else 0
theorem wantAt_no (s : ByteArray) (k : Nat) (h : ¬ kind.kindOf s = k) : wantAt s (k + 1) = wantAt s k := by
  unfold wantAt
  by_cases h1 : kind.kindOf s < k
  · rw [if_pos h1, if_pos (by omega)]
  · rw [if_neg h1, if_neg (by omega)]

set_option maxHeartbeats 4000000 in
theorem good (s : ByteArray) (w : World) (ht : kind.Table w) (hs : s.size ≤ 100) :
    Calls Tryd.prog 3 #[.string s] w fun e w' => e = .returned (.bool true) ∧ But [] w w' := by
  have HT := Lib.hid ht
  clear ht
  go_enter Tryd.func3, Tryd.ntmps3
  go_wp2_with fail
  go_loopw [3, 4] (fun v i wr => ∃ k : Nat, 1 ≤ k ∧ k ≤ 6 ∧ i = .int .i64 k ∧ v = .int .i64 (wantAt s k : Nat) ∧ But [] w wr) (fun _ i _ => 6 - (intOf i).toNat)
  case atStart => exact ⟨1, by omega, by omega, rfl, by unfold wantAt; split <;> simp <;> omega, But.refl _ _⟩
  case round =>
    obtain ⟨k, h1, h6, rfl, rfl, hbw⟩ := hrel
    have HBW := Lib.hid hbw
    clear hbw
    obtain rfl | rfl | rfl | rfl | rfl | rfl : k = 1 ∨ k = 2 ∨ k = 3 ∨ k = 4 ∨ k = 5 ∨ k = 6 := by omega
    · have hiff := kind.kindOf_iff s 1 (by omega) (by omega)
      by_cases hm : kind.kindOf s = 1
      · have hb : (s.toList == (kind.nm 1).toList) = true := by rw [hiff.2 hm]; simp
        have HM := Lib.hid hm
        clear hiff hm
        generalize hnk : kind.nm 1 = nk at *
        have HNK := Lib.hid hnk
        clear hnk
        go_wp2_with fail
        refine (kind.lN4_1 _).mono ?_
        rw [HNK.out]
        rintro e w' ⟨rfl, hb2⟩
        have HB2 := Lib.hid hb2
        clear hb2
        go_wp2
        go_roundw
        case rel => exact ⟨1 + 1, by omega, by omega, by go_num, by unfold wantAt; rw [HM.out]; simp, HBW.out.trans HB2.out⟩
        case measure => simp [intOf]
      · have hb : (s.toList == (kind.nm 1).toList) = false := by
          rw [beq_eq_false_iff_ne]
          intro e
          apply hm
          apply hiff.1
          exact ByteArray.ext (Array.toList_inj.1 (by simpa [ByteArray.toList_eq] using e))
        have HM := Lib.hid hm
        clear hiff hm
        generalize hnk : kind.nm 1 = nk at *
        have HNK := Lib.hid hnk
        clear hnk
        go_wp2_with fail
        refine (kind.lN4_1 _).mono ?_
        rw [HNK.out]
        rintro e w' ⟨rfl, hb2⟩
        have HB2 := Lib.hid hb2
        clear hb2
        go_wp2
        go_roundw
        case rel => exact ⟨1 + 1, by omega, by omega, by go_num, by rw [wantAt_no s 1 HM.out], HBW.out.trans HB2.out⟩
        case measure => simp [intOf]
    · have hiff := kind.kindOf_iff s 2 (by omega) (by omega)
      by_cases hm : kind.kindOf s = 2
      · have hb : (s.toList == (kind.nm 2).toList) = true := by rw [hiff.2 hm]; simp
        have HM := Lib.hid hm
        clear hiff hm
        generalize hnk : kind.nm 2 = nk at *
        have HNK := Lib.hid hnk
        clear hnk
        go_wp2_with fail
        refine (kind.lN4_2 _).mono ?_
        rw [HNK.out]
        rintro e w' ⟨rfl, hb2⟩
        have HB2 := Lib.hid hb2
        clear hb2
        go_wp2
        go_roundw
        case rel => exact ⟨2 + 1, by omega, by omega, by go_num, by unfold wantAt; rw [HM.out]; simp, HBW.out.trans HB2.out⟩
        case measure => simp [intOf]
      · have hb : (s.toList == (kind.nm 2).toList) = false := by
          rw [beq_eq_false_iff_ne]
          intro e
          apply hm
          apply hiff.1
          exact ByteArray.ext (Array.toList_inj.1 (by simpa [ByteArray.toList_eq] using e))
        have HM := Lib.hid hm
        clear hiff hm
        generalize hnk : kind.nm 2 = nk at *
        have HNK := Lib.hid hnk
        clear hnk
        go_wp2_with fail
        refine (kind.lN4_2 _).mono ?_
        rw [HNK.out]
        rintro e w' ⟨rfl, hb2⟩
        have HB2 := Lib.hid hb2
        clear hb2
        go_wp2
        go_roundw
        case rel => exact ⟨2 + 1, by omega, by omega, by go_num, by rw [wantAt_no s 2 HM.out], HBW.out.trans HB2.out⟩
        case measure => simp [intOf]
    · have hiff := kind.kindOf_iff s 3 (by omega) (by omega)
      by_cases hm : kind.kindOf s = 3
      · have hb : (s.toList == (kind.nm 3).toList) = true := by rw [hiff.2 hm]; simp
        have HM := Lib.hid hm
        clear hiff hm
        generalize hnk : kind.nm 3 = nk at *
        have HNK := Lib.hid hnk
        clear hnk
        go_wp2_with fail
        refine (kind.lN4_3 _).mono ?_
        rw [HNK.out]
        rintro e w' ⟨rfl, hb2⟩
        have HB2 := Lib.hid hb2
        clear hb2
        go_wp2
        go_roundw
        case rel => exact ⟨3 + 1, by omega, by omega, by go_num, by unfold wantAt; rw [HM.out]; simp, HBW.out.trans HB2.out⟩
        case measure => simp [intOf]
      · have hb : (s.toList == (kind.nm 3).toList) = false := by
          rw [beq_eq_false_iff_ne]
          intro e
          apply hm
          apply hiff.1
          exact ByteArray.ext (Array.toList_inj.1 (by simpa [ByteArray.toList_eq] using e))
        have HM := Lib.hid hm
        clear hiff hm
        generalize hnk : kind.nm 3 = nk at *
        have HNK := Lib.hid hnk
        clear hnk
        go_wp2_with fail
        refine (kind.lN4_3 _).mono ?_
        rw [HNK.out]
        rintro e w' ⟨rfl, hb2⟩
        have HB2 := Lib.hid hb2
        clear hb2
        go_wp2
        go_roundw
        case rel => exact ⟨3 + 1, by omega, by omega, by go_num, by rw [wantAt_no s 3 HM.out], HBW.out.trans HB2.out⟩
        case measure => simp [intOf]
    · have hiff := kind.kindOf_iff s 4 (by omega) (by omega)
      by_cases hm : kind.kindOf s = 4
      · have hb : (s.toList == (kind.nm 4).toList) = true := by rw [hiff.2 hm]; simp
        have HM := Lib.hid hm
        clear hiff hm
        generalize hnk : kind.nm 4 = nk at *
        have HNK := Lib.hid hnk
        clear hnk
        go_wp2_with fail
        refine (kind.lN4_4 _).mono ?_
        rw [HNK.out]
        rintro e w' ⟨rfl, hb2⟩
        have HB2 := Lib.hid hb2
        clear hb2
        go_wp2
        go_roundw
        case rel => exact ⟨4 + 1, by omega, by omega, by go_num, by unfold wantAt; rw [HM.out]; simp, HBW.out.trans HB2.out⟩
        case measure => simp [intOf]
      · have hb : (s.toList == (kind.nm 4).toList) = false := by
          rw [beq_eq_false_iff_ne]
          intro e
          apply hm
          apply hiff.1
          exact ByteArray.ext (Array.toList_inj.1 (by simpa [ByteArray.toList_eq] using e))
        have HM := Lib.hid hm
        clear hiff hm
        generalize hnk : kind.nm 4 = nk at *
        have HNK := Lib.hid hnk
        clear hnk
        go_wp2_with fail
        refine (kind.lN4_4 _).mono ?_
        rw [HNK.out]
        rintro e w' ⟨rfl, hb2⟩
        have HB2 := Lib.hid hb2
        clear hb2
        go_wp2
        go_roundw
        case rel => exact ⟨4 + 1, by omega, by omega, by go_num, by rw [wantAt_no s 4 HM.out], HBW.out.trans HB2.out⟩
        case measure => simp [intOf]
    · have hiff := kind.kindOf_iff s 5 (by omega) (by omega)
      by_cases hm : kind.kindOf s = 5
      · have hb : (s.toList == (kind.nm 5).toList) = true := by rw [hiff.2 hm]; simp
        have HM := Lib.hid hm
        clear hiff hm
        generalize hnk : kind.nm 5 = nk at *
        have HNK := Lib.hid hnk
        clear hnk
        go_wp2_with fail
        refine (kind.lN4_5 _).mono ?_
        rw [HNK.out]
        rintro e w' ⟨rfl, hb2⟩
        have HB2 := Lib.hid hb2
        clear hb2
        go_wp2
        go_roundw
        case rel => exact ⟨5 + 1, by omega, by omega, by go_num, by unfold wantAt; rw [HM.out]; simp, HBW.out.trans HB2.out⟩
        case measure => simp [intOf]
      · have hb : (s.toList == (kind.nm 5).toList) = false := by
          rw [beq_eq_false_iff_ne]
          intro e
          apply hm
          apply hiff.1
          exact ByteArray.ext (Array.toList_inj.1 (by simpa [ByteArray.toList_eq] using e))
        have HM := Lib.hid hm
        clear hiff hm
        generalize hnk : kind.nm 5 = nk at *
        have HNK := Lib.hid hnk
        clear hnk
        go_wp2_with fail
        refine (kind.lN4_5 _).mono ?_
        rw [HNK.out]
        rintro e w' ⟨rfl, hb2⟩
        have HB2 := Lib.hid hb2
        clear hb2
        go_wp2
        go_roundw
        case rel => exact ⟨5 + 1, by omega, by omega, by go_num, by rw [wantAt_no s 5 HM.out], HBW.out.trans HB2.out⟩
        case measure => simp [intOf]
    · have hw6 : wantAt s 6 = kind.kindOf s := by
        have := kind.kindOf_le s
        unfold wantAt
        rw [if_pos (by omega)]
      rw [hw6]
      clear hw6
      go_wp2_with fail
      refine (kind.impl5 s _ (HT.out.but HBW.out (by simp)) hs).mono ?_
      rintro e w2 ⟨rfl, hb2⟩
      have HB2 := Lib.hid hb2
      clear hb2
      go_wp2_with fail
      refine (kind.impl5 _ _ ((HT.out.but HBW.out (by simp)).but HB2.out (by simp)) (by decide)).mono ?_
      rintro e w3 ⟨rfl, hb3⟩
      have hk2 : kind.kindOf ⟨#[105, 110, 116]⟩ = 2 := by decide +kernel
      rw [hk2]
      have HB3 := Lib.hid hb3
      clear hb3 hk2
      have hm5 := kind.kindOf_le s
      generalize kind.kindOf s = m at *
      by_cases hm : m = 0
      · subst hm
        go_wp2
        go_ret
        exact ⟨rfl, (HBW.out.trans HB2.out).trans HB3.out⟩
      · have hp : 0 < m := by omega
        have hd : decide (0 < m) = true := by simpa using hp
        have hd2 : decide ((0 : Int) < (m : Int)) = true := by simp; omega
        rw [hd]
        go_wp2
        go_ret
        exact ⟨rfl, (HBW.out.trans HB2.out).trans HB3.out⟩

theorem walk (s : ByteArray) (w : World) (hm : s.size ≤ maxLen) (ht : kind.Table w) :
    Calls Tryd.prog 3 #[.string s] w fun e w' => e = .returned (.bool true) ∧ But [] w w' := by
  unfold maxLen at hm
  by_cases h1 : 2147483647 < s.size
  · have g : (2147483647 : Int) < (s.size : Int) := by omega
    clear ht h1
    go_enter Tryd.func3, Tryd.ntmps3
    go_wp2
    go_ret
    exact ⟨rfl, But.refl _ _⟩
  by_cases h2 : 100 < s.size
  · have g : ¬ (2147483647 : Int) < (s.size : Int) := by omega
    have g2 : (100 : Int) < (s.size : Int) := by omega
    clear ht h1 h2
    go_enter Tryd.func3, Tryd.ntmps3
    go_wp2
    go_ret
    exact ⟨rfl, But.refl _ _⟩
  · exact good s w ht (by omega)

theorem gK : Tryd.prog.globalNamed "pub-teleprinter/pub/lineprotocol/lineprotocol.kinds" = some 0 := by kernel_rfl
theorem gKT : (Tryd.prog.globals[0]?).map (·.type) = some 26 := by kernel_rfl

/-- WHAT THE ROW's LIST GIVES: the table's cells. -/
theorem table {W : World} (h : laidMetH Tryd.prog Rows.fnKindUnmarshalRow.laid W) : kind.Table W := by
  rw [MakeChecks.laidMetH_plain _ _ _ (by kernel_rfl)] at h
  obtain ⟨ps, ⟨g0, t0, cs0, f0, p0, q0, hg0, ht0, hv0, hd0, _⟩, _⟩ := h
  obtain rfl := Option.some.inj (gK.symm.trans hg0)
  obtain rfl := Option.some.inj (gKT.symm.trans ht0)
  rcases open_strings Tryd.underlying26 Tryd.underlying9 (by kernel_rfl) hd0 with ⟨_, hx⟩ | ⟨a, len, cap, ss, hcs, _, hl, hm, hz, hx, hcell, hws⟩
  · simp [Rows.laid_pub_teleprinter_pub_lineprotocol_lineprotocol_kinds] at hx
  · simp only [Prod.mk.injEq, Rows.laid_pub_teleprinter_pub_lineprotocol_lineprotocol_kinds, DataW.slice.injEq] at hx
    obtain ⟨⟨h1, h2⟩, _⟩ := hx
    have hd : ss.drop len = [] := by simpa [strs] using h2.symm
    have hle : ss.length ≤ len := by simpa using hd
    rw [List.take_of_length_le hle] at h1
    have h6 : ss.length = 6 := by simpa [strs] using (congrArg List.length h1).symm
    have hz' : ss.length = cap := by simpa using hz
    have hlen : len = 6 := by omega
    subst hlen
    obtain ⟨b, off, spot⟩ := a
    have hs : spot = none := by
      have := hcell 0 (by omega)
      simpa [Addr.add] using World.cell?_spot this
    subst hs
    have hv : W.cell? ⟨0, 0, none⟩ = some (.slice (some ⟨b, off, none⟩) 6 cap) := by
      have := World.var?_cell hg0 hv0 0
      rw [Array.eq_one_of_toList hcs] at this
      simpa using this
    refine ⟨b, off, cap, hv, fun j hj => ?_⟩
    have hc := hcell j (by omega)
    have e : (⟨b, off, none⟩ : Addr).add j = ⟨b, off + j, none⟩ := by unfold Addr.add; split <;> simp_all
    rw [e] at hc
    rw [hc]
    have hj' : j < ss.length := by omega
    have hsj : ∀ l : List UInt8, (strs (H := Unit) ss)[j]? = some (.lit (.string l)) → ss.getD j ByteArray.empty = ⟨l.toArray⟩ := fun l hl => by
      simp [strs, List.getElem?_eq_getElem hj'] at hl
      simp [List.getD, List.getElem?_eq_getElem hj', ← hl]
    rw [← h1] at hsj
    congr 2
    obtain rfl | rfl | rfl | rfl | rfl | rfl : j = 0 ∨ j = 1 ∨ j = 2 ∨ j = 3 ∨ j = 4 ∨ j = 5 := by omega
    all_goals exact hsj _ rfl

/-- WHAT THE WALKS GIVE, FOR EVERY ARGUMENT AND EVERY WORLD THAT HOLDS THE TABLE. -/
theorem contract (H : Type) (enc : TypeId × Value → H) (W : World) (base : Nat) (args : Array Value) (ds gs : List (DataW H)) (before : List MemPlace)
    (hval : ∀ (j : Nat) t v, Tryd.f3.params[j]? = some t → args[j]? = some v → Value.okWide Tryd.prog W .any base t v)
    (hW : DataW.Whole enc Tryd.prog Tryd.f3.params.toList Rows.fnKindUnmarshalSpec.vars false W args.toList ds gs before) (ht : kind.Table W) :
    Calls Tryd.prog 3 args W fun e W' => ∃ v, e = .returned v ∧ Rows.fnKindUnmarshalSpec.post enc Tryd.prog Tryd.f3 false true false false W args v W' := by
  have hW' := hW
  obtain ⟨p, q, hA0, hV, rfl, hfz, hnd⟩ := hW
  have hA : DataW.TrodAll enc Tryd.prog W 0 (fun _ => true) true Tryd.f3.params.toList args.toList ds p := hA0
  rw [Tryd.params3] at hA hval
  obtain ⟨v0, vs0, d0, ds0, p0, q0, hargs, rfl, rfl, h0, r0⟩ := trodAll_cons hA
  obtain ⟨rfl, rfl, rfl⟩ := trodAll_nil r0
  obtain rfl : args = #[v0] := by cases args; simp_all
  obtain ⟨rfl, rfl⟩ := trodVars_none hV
  obtain ⟨a0, rfl, rfl, rfl, w0⟩ := open_string Tryd.underlying9 (hval 0 9 v0 rfl rfl) h0
  clear hA0
  refine (walk a0 W w0 ht).mono fun e W' ⟨he, hg⟩ => ?_
  subst he
  exact ⟨_, rfl, _, _, _, [], _, [], hW', trodAll_cons_mk (shut_bool Tryd.underlying4 _) trodAll_mk0, trodAll_cons_mk (shut_string Tryd.underlying9 w0) trodAll_mk0, rfl, hg.toBelow.frame _, fun h => by cases h⟩

noncomputable def wit (os : Os) : World := World.doorLaid Tryd.prog 400 os
theorem laid_met (os : Os) : laidMet Tryd.prog Rows.fnKindUnmarshalRow.laid ((wit os).forCall (fun _ _ => 0) ⟨#[], #[.string ByteArray.empty], []⟩).memory :=
  laidMet_of_run' 8 (by kernel_rfl) (by kernel_rfl)
theorem reads (os : Os) {H : Type} (enc : TypeId × Value → H) : ∃ places, DataW.whole enc Tryd.prog ((wit os).forCall (fun _ _ => 0) ⟨#[], #[.string ByteArray.empty], []⟩).memory Tryd.f3.params.toList Rows.fnKindUnmarshalSpec.vars false #[Value.string ByteArray.empty].toList 8 = some ([.lit (.string [])], [], places) :=
  ⟨[], by kernel_rfl⟩

set_option maxRecDepth 100000 in
theorem lifted (os : Os) (started : os.Started) (H : Type) (enc : TypeId × Value → H) (F : Stop.Interp) :
    ReturnsInHanded {} Tryd.checked os 3 .any ((OpenSpec.ofChange Rows.fnKindUnmarshalSpec).preRow enc Tryd.prog Tryd.f3 Rows.fnKindUnmarshalRow.domain false Rows.fnKindUnmarshalRow.laid) (((OpenSpec.ofChange Rows.fnKindUnmarshalSpec).at F).post enc Tryd.prog Tryd.f3 false true false false) := by
  obtain ⟨places, hx⟩ := reads os enc
  refine returnsInHanded_of_row (C := Tryd.checked) (s := OpenSpec.ofChange Rows.fnKindUnmarshalSpec) own started (by kernel_rfl) Tryd.func3
    (witness_row_atRef (enc := enc) (C := Tryd.checked) false (wit os) #[.string ByteArray.empty] rfl (by kernel_rfl) (by kernel_rfl) (by kernel_rfl)
      (OpenSpec.preRow_of_cond 8 hx (by kernel_rfl) (fun k hk => by cases hk) (by kernel_rfl) (laid_met os))) ?_
  intro W base args ds gs before hval hW _ _ _ hL _ _
  exact contract H enc W base args ds gs before hval hW (table hL)

theorem said : Rows.FnKindUnmarshalSaid :=
  OpenClaim.holds_of_cond 3 Tryd.f3 rfl rfl rfl rfl rfl rfl rfl ⟨rfl, rfl, rfl, rfl, rfl⟩ rfl rfl rfl rfl rfl (by kernel_rfl) Tryd.func3 (by kernel_rfl)
    (of_decide_eq_true (by kernel_rfl)) (by unfold Func.isWrapper; first | (rw [if_pos (by decide +kernel)]; kernel_rfl) | (rw [if_neg (by decide +kernel)]; exact ⟨rfl, rfl⟩))
    (fun os started H enc _ F => by rw [OpenClaim.pre_eq_preRow]; exact lifted os started H enc F)

theorem plain (f : FuncId) (fn : Func) (hf : Tryd.pinned.checked.prog.funcNamed "pub-teleprinter/laws.FnKindUnmarshal" = some f) (hfn : Tryd.pinned.checked.prog.funcs[f]? = some fn) :
    false = Tryd.pinned.checked.prog.looks [] ∧ ∀ (j : Nat) t, fn.params[j]? = some t → Tryd.pinned.checked.prog.wantsStandIn t = false := by
  obtain rfl : f = 3 := Option.some.inj ((show Tryd.prog.funcNamed "pub-teleprinter/laws.FnKindUnmarshal" = some 3 by kernel_rfl).symm.trans hf) |>.symm
  obtain rfl : fn = Tryd.f3 := (Option.some.inj (Tryd.func3.symm.trans hfn)).symm
  refine ⟨by kernel_rfl, fun j t ht => ?_⟩
  rw [Tryd.params3] at ht
  obtain rfl : t = 9 := by simpa using Array.mem_of_getElem? ht
  exact (show Tryd.prog.wantsStandIn 9 = false by kernel_rfl)

theorem card : Rows.FnKindUnmarshalCardSaid :=
  Claim7.holds_tied_plain_at .later [] _ _ _ _ said (fun _ h => by cases h) (by kernel_rfl) (fun _ h => by cases h) fnKindUnmarshal_row_tie rfl ⟨rfl, rfl⟩ (by kernel_rfl) rfl plain (by kernel_rfl)
#print axioms card
end Go.Proofs.YtciicifdehicgaaDoor.fnKindUnmarshal
