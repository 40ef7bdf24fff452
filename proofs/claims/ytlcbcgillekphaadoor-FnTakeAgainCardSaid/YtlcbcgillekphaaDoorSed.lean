/-
  Proved: the contract of DoorSet.
  Conditions: a set's number.
-/
import Derived.Test.YtlcbcgillekphaaDoorSev
namespace Go.Proofs.YtlcbcgillekphaaDoor.set
open Go.RowKit Mem rw
set_option linter.unusedVariables false

theorem doorSet (k : Nat) (hk : k ≤ 13) (w : World) : Calls Tryd.prog 28 #[.int .i64 k] w (SetIs k w) := by
  obtain rfl | rfl | rfl | rfl | rfl | rfl | rfl | rfl | rfl | rfl | rfl | rfl | rfl | rfl : k = 0 ∨ k = 1 ∨ k = 2 ∨ k = 3 ∨ k = 4 ∨ k = 5 ∨ k = 6 ∨ k = 7 ∨ k = 8 ∨ k = 9 ∨ k = 10 ∨ k = 11 ∨ k = 12 ∨ k = 13 := by omega
  · go_enter Tryd.func28, Tryd.ntmps28
    go_wp2_with fail
    refine (mk_fieldSeparatorSpace _).mono ?_
    rintro e w1 ⟨R, rfl, h⟩
    have H := Lib.hid h
    clear h
    go_wp2
    go_ret
    exact ⟨R, rfl, H.out⟩
  · go_enter Tryd.func28, Tryd.ntmps28
    go_wp2_with fail
    refine (mk_whitespace _).mono ?_
    rintro e w1 ⟨R, rfl, h⟩
    have H := Lib.hid h
    clear h
    go_wp2
    go_ret
    exact ⟨R, rfl, H.out⟩
  · go_enter Tryd.func28, Tryd.ntmps28
    go_wp2_with fail
    refine (mk_tagKeyChars _).mono ?_
    rintro e w1 ⟨R, rfl, h⟩
    have H := Lib.hid h
    clear h
    go_wp2
    go_ret
    exact ⟨R, rfl, H.out⟩
  · go_enter Tryd.func28, Tryd.ntmps28
    go_wp2_with fail
    refine (mk_nonPrintable _).mono ?_
    rintro e w1 ⟨R, rfl, h⟩
    have H := Lib.hid h
    clear h
    go_wp2
    go_ret
    exact ⟨R, rfl, H.out⟩
  · go_enter Tryd.func28, Tryd.ntmps28
    go_wp2_with fail
    refine (mk_eolChars _).mono ?_
    rintro e w1 ⟨R, rfl, h⟩
    have H := Lib.hid h
    clear h
    go_wp2
    go_ret
    exact ⟨R, rfl, H.out⟩
  · go_enter Tryd.func28, Tryd.ntmps28
    go_wp2_with fail
    refine (mk_measurementChars _).mono ?_
    rintro e w1 ⟨R, rfl, h⟩
    have H := Lib.hid h
    clear h
    go_wp2
    go_ret
    exact ⟨R, rfl, H.out⟩
  · go_enter Tryd.func28, Tryd.ntmps28
    go_wp2_with fail
    refine (mk_tagValChars _).mono ?_
    rintro e w1 ⟨R, rfl, h⟩
    have H := Lib.hid h
    clear h
    go_wp2
    go_ret
    exact ⟨R, rfl, H.out⟩
  · go_enter Tryd.func28, Tryd.ntmps28
    go_wp2_with fail
    refine (mk_fieldKeyChars _).mono ?_
    rintro e w1 ⟨R, rfl, h⟩
    have H := Lib.hid h
    clear h
    go_wp2
    go_ret
    exact ⟨R, rfl, H.out⟩
  · go_enter Tryd.func28, Tryd.ntmps28
    go_wp2_with fail
    refine (mk_fieldStringValChars _).mono ?_
    rintro e w1 ⟨R, rfl, h⟩
    have H := Lib.hid h
    clear h
    go_wp2
    go_ret
    exact ⟨R, rfl, H.out⟩
  · go_enter Tryd.func28, Tryd.ntmps28
    go_wp2_with fail
    refine (mk_fieldValChars _).mono ?_
    rintro e w1 ⟨R, rfl, h⟩
    have H := Lib.hid h
    clear h
    go_wp2
    go_ret
    exact ⟨R, rfl, H.out⟩
  · go_enter Tryd.func28, Tryd.ntmps28
    go_wp2_with fail
    refine (mk_timeChars _).mono ?_
    rintro e w1 ⟨R, rfl, h⟩
    have H := Lib.hid h
    clear h
    go_wp2
    go_ret
    exact ⟨R, rfl, H.out⟩
  · go_enter Tryd.func28, Tryd.ntmps28
    go_wp2_with fail
    refine (mk_commentChars _).mono ?_
    rintro e w1 ⟨R, rfl, h⟩
    have H := Lib.hid h
    clear h
    go_wp2
    go_ret
    exact ⟨R, rfl, H.out⟩
  · go_enter Tryd.func28, Tryd.ntmps28
    go_wp2_with fail
    refine (mk_notEOL _).mono ?_
    rintro e w1 ⟨R, rfl, h⟩
    have H := Lib.hid h
    clear h
    go_wp2
    go_ret
    exact ⟨R, rfl, H.out⟩
  · go_enter Tryd.func28, Tryd.ntmps28
    go_wp2_with fail
    refine (mk_notNewline _).mono ?_
    rintro e w1 ⟨R, rfl, h⟩
    have H := Lib.hid h
    clear h
    go_wp2
    go_ret
    exact ⟨R, rfl, H.out⟩
end Go.Proofs.YtlcbcgillekphaaDoor.set
