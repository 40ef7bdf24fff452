/-
  Proved: for every string, laws.FnCRC16 returns true (the check of any bytes is the remainder that the cluster specification names).
  Conditions: none beyond the given statement's own.
  The frame of the row's step was written by the kit's proof-skeleton.mjs; the walks are this session's.
-/
import Derived.Test.YtciicifdehicgaaCrcW
import Derived.Outline
import Derived.WalkLawsBesides
import Derived.WalkSpells
import Derived.Lib.Hide
import Derived.Lib.ConvBytes
import Derived.WalkKit
import Derived.ProofKit
import Derived.OpenShut
import Derived.ShutString
import Derived.Below
namespace Go.Proofs.Ytciicifdehicgaa.fnCRC16
open Go.ChangeShapes Go.WideShapes Go.ChangeAt Go.RowKit
open Go.ChangeMaps (open_string shut_string)
set_option linter.unusedVariables false      -- a walk need not use every 'w<i>' (that an integer argument fits its kind)

theorem own : ownKnob Try.prog.godebug = none := by kernel_rfl


theorem radix19' (g cap : Nat) (s : ByteArray) (w : World) (hn : s.size ≤ 140737488351232) (hg : g < w.heap.size)
    (hc : ∀ j, j < s.size → w.cell? ⟨g, j, none⟩ = some (.int .u8 ((s.data.toList.getD j 0).toNat : Int))) :
    Calls Try.prog 19 #[.slice (some ⟨g, 0, none⟩) s.size cap] w fun e w' => e = .returned (.int .u16 ((crc.crcT s.data.toList).toNat : Int)) ∧ Below w.heap.size w w' :=
  crc.radix19 g cap s.data.toList w hn hg hc
theorem spec11' (g cap : Nat) (s : ByteArray) (w : World) (hn : s.size ≤ 140737488351232)
    (hc : ∀ j, j < s.size → w.cell? ⟨g, j, none⟩ = some (.int .u8 ((s.data.toList.getD j 0).toNat : Int))) :
    Calls Try.prog 11 #[.slice (some ⟨g, 0, none⟩) s.size cap] w fun e w' => e = .returned (.int .u16 ((crc.crcB s.data.toList).toNat : Int)) ∧ w = w' :=
  crc.spec11 g cap s.data.toList w hn hc
theorem crc_same (l : List UInt8) : crc.crcB l = crc.crcT l := by
  unfold crc.crcB crc.crcT
  congr 1
  funext c b
  exact crc.eight c b.toBitVec

theorem bytes_below (w : World) (e : TypeId) (s : ByteArray) : Below w.heap.size w (Lib.bytesWorld w e s) :=
  ⟨rfl, rfl, rfl, by rw [Lib.bytesWorld_size]; omega, fun k hk => Lib.bytesWorld_at_old w e s k hk⟩

theorem impl10 (s : ByteArray) (w : World) (hs : s.size ≤ 140737488351232) :
    Calls Try.prog 10 #[.string s] w fun e w' => e = .returned (.int .i64 ((crc.crcT s.data.toList).toNat : Int)) ∧ Below w.heap.size w w' := by
  have hcv := Lib.run_convert_string_bytes (P := Try.prog) w 9 32 5 s Try.underlying9 Try.underlying32 Try.underlying5
  have hb := Lib.hid (bytes_below w 5 s)
  have hcell := Lib.hid (fun j hj => Lib.bytesWorld_cell w 5 s j hj)
  have hsz := Lib.hid (Lib.bytesWorld_size w 5 s)
  generalize Lib.bytesWorld w 5 s = w1 at *
  go_enter Try.func10, Try.ntmps10
  go_wp2_with (go_at_call 19; refine (radix19' _ _ s _ hs (by rw [hsz.out]; exact Nat.lt_succ_self _) hcell.out).mono ?_; rintro e w2 ⟨rfl, hb2⟩)
  have b := (crc.crcT s.data.toList).isLt
  go_wp2
  go_ret
  exact ⟨by simp, hb.out.trans (hb2.mono (by rw [hsz.out]; omega))⟩
theorem walk (a0 : ByteArray) (w0 : a0.size ≤ maxLen) (w : World) :
    Calls Try.prog 5 #[.string a0] w fun e w' => e = .returned (.bool true) ∧ Below w.heap.size w w' := by
  by_cases h1 : 2147483647 < a0.size
  · have h1' : (2147483647 : Int) < (a0.size : Int) := by omega
    unfold maxLen at w0
    go_enter Try.func5, Try.ntmps5
    go_wp2
    go_ret
    exact ⟨rfl, Below.refl _ _⟩
  by_cases h2 : 2000 < a0.size
  · have h2' : (2000 : Int) < (a0.size : Int) := by omega
    unfold maxLen at w0
    go_enter Try.func5, Try.ntmps5
    go_wp2
    go_ret
    exact ⟨rfl, Below.refl _ _⟩
  · have hs : a0.size ≤ 140737488351232 := by omega
    have h3 : a0.size ≤ 2000 := by omega
    have hcv := fun W => Lib.run_convert_string_bytes (P := Try.prog) W 9 32 5 a0 Try.underlying9 Try.underlying32 Try.underlying5
    clear h1 h2 w0
    have HS := Lib.hid hs
    clear hs
    go_enter Try.func5, Try.ntmps5
    go_wp2_with fail
    refine (impl10 _ _ HS.out).mono ?_
    rintro e w1 ⟨rfl, hb1⟩
    have HB1 := Lib.hid hb1
    clear hb1
    go_wp2_with fail
    refine (spec11' _ _ a0 _ HS.out (fun j hj => Lib.bytesWorld_cell w1 5 a0 j hj)).mono ?_
    rintro e w2 ⟨rfl, rfl⟩
    rw [crc_same]
    have b := (crc.crcT a0.data.toList).isLt
    go_wp2_with fail
    refine (impl10 _ _ (by decide)).mono ?_
    rintro e w3 ⟨rfl, hb3⟩
    have hk : crc.crcT (⟨#[49, 50, 51, 52, 53, 54, 55, 56, 57]⟩ : ByteArray).data.toList = 12739 := by decide +kernel
    rw [hk]
    go_wp2
    go_ret
    exact ⟨rfl, HB1.out.trans ((bytes_below w1 5 a0).mono HB1.out.size |>.trans (hb3.mono (by rw [Lib.bytesWorld_size]; have := HB1.out.size; omega)))⟩

/-! ### THE ROW's STEP: WRITTEN OUT: LEAVE IT -/
set_option maxRecDepth 100000 in
theorem lifted (os : Os) (started : os.Started) (H : Type) (enc : TypeId × Value → H) :
    ReturnsInHanded {} Try.checked os 5 .any (Rows.fnCRC16Spec.pre6 enc Try.prog Try.f5 Rows.fnCRC16Row.domain false) (Rows.fnCRC16Spec.post enc Try.prog Try.f5 false true false false) := by
  refine returnsInHanded_of_change (C := Try.checked) own started (by kernel_rfl) Try.func5
    (ChangeSpec.witness6 (enc := enc) (C := Try.checked) false ⟨#[], #[.string ByteArray.empty], []⟩ 8 (by kernel_rfl) (by kernel_rfl) (by kernel_rfl) (by kernel_rfl)) ?_
  intro W base args ds gs before hval0 hW hcnd _
  have hval : ∀ (j : Nat) t v, Try.f5.params[j]? = some t → args[j]? = some v → Value.okWide Try.prog W .any base t v := hval0
  have hW' := hW
  obtain ⟨p, q, hA0, hV, rfl, hfz, hnd⟩ := hW
  have hA : DataW.TrodAll enc Try.prog W 0 (fun _ => true) true Try.f5.params.toList args.toList ds p := hA0
  rw [Try.params5] at hA hval
  obtain ⟨v0, vs0, d0, ds0, p0, q0, hargs, rfl, rfl, h0, r0⟩ := trodAll_cons hA
  obtain ⟨rfl, rfl, rfl⟩ := trodAll_nil r0
  obtain rfl : args = #[v0] := by cases args; simp_all
  obtain ⟨rfl, rfl⟩ := trodVars_none hV
  obtain ⟨a0, rfl, rfl, rfl, w0⟩ := open_string Try.underlying9 (hval 0 9 v0 rfl rfl) h0
  clear hA0 hval0
  simp only [List.append_nil] at hW'
  refine (walk a0 w0 W).mono fun e W' ⟨he, hg⟩ => ?_
  subst he
  exact ⟨_, rfl, _, _, _, [], _, [], hW', (trodAll_cons_mk (shut_bool Try.underlying4 _) trodAll_mk0), (trodAll_cons_mk (shut_string Try.underlying9 w0) trodAll_mk0), rfl, hg.frame _, fun h => by cases h⟩

theorem over : Rows.fnCRC16Row.holds Try.pinned (OpenSpec.ofChange Rows.fnCRC16Spec) :=
  OpenClaim.holds_of_wide 5 Try.f5 rfl rfl rfl rfl rfl rfl rfl ⟨rfl, rfl, rfl, rfl, rfl⟩ rfl rfl rfl rfl rfl (by kernel_rfl) Try.func5 (by kernel_rfl)
    (of_decide_eq_true (by kernel_rfl)) (by unfold Func.isWrapper; first | (rw [if_pos (by decide +kernel)]; kernel_rfl) | (rw [if_neg (by decide +kernel)]; exact ⟨rfl, rfl⟩))
    (fun os started H enc _ => lifted os started H enc)

theorem proved : Rows.FnCRC16Said :=
  over
#print axioms proved
end Go.Proofs.Ytciicifdehicgaa.fnCRC16
