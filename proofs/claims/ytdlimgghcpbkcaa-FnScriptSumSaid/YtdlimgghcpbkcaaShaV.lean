/-
  Proved: the law FnScriptSum walked: it returns true for every string.
  Conditions: none.
-/
import Derived.Test.YtdlimgghcpbkcaaShaJ
namespace Go.Proofs.Ytdlimgghcpbkcaa.sha
open Go.RowKit Mem Go.Great
set_option linter.unusedVariables false

theorem hexSum_size (s : ByteArray) : (hexSum s).size = 40 := by
  have h : (Lib.Hx.encode (sum s.data.toList)).length = 40 := by rw [encode_length]; rfl
  show (Lib.Hx.encode (sum s.data.toList)).toArray.size = 40
  rw [List.size_toArray]; exact h
set_option maxHeartbeats 400000 in
theorem scriptSum5 (s : ByteArray) (w : World) : Calls Try.prog 5 #[.string s] w fun e w' => e = .returned (.bool true) ∧ Below w.heap.size w w' := by
  by_cases h1 : 2147483647 < s.size
  · go_enter Try.func5, Try.ntmps5
    go_wp2
    go_ret
    exact ⟨rfl, Below.refl _ _⟩
  by_cases h2 : 2000 < s.size
  · go_enter Try.func5, Try.ntmps5
    go_wp2
    go_ret
    exact ⟨rfl, Below.refl _ _⟩
  have hsz : s.size ≤ 100000 := by omega
  have HA := Lib.hid (sum13 s hsz w)
  have HB := Lib.hid (spec11 s hsz)
  have hlen : (⟨(sum s.data.toList).toArray⟩ : ByteArray).size = 20 := rfl
  have HC := Lib.hid (hex12 ⟨(sum s.data.toList).toArray⟩ (by rw [hlen]; omega))
  have hq := hexSum_size s
  obtain ⟨q, hqq⟩ : ∃ q, hexSum s = q := ⟨_, rfl⟩
  have HC' : Hid (∀ w : World, Calls Try.prog 12 #[.string ⟨(sum s.data.toList).toArray⟩] w fun e w' => e = .returned (.string q) ∧ Below w.heap.size w w') := Lib.hid (by
    have h := HC.out
    rw [← hqq]
    exact h)
  rw [hqq] at HA hq
  clear HC hqq hlen
  go_enter Try.func5, Try.ntmps5
  go_wp2_with (first
    | (go_at_call 13; refine HA.out.mono ?_; rintro e w2 ⟨rfl, hb2⟩; (have B2 := Lib.hid hb2); clear hb2)
    | (go_at_call 11; refine (HB.out _).mono ?_; rintro e w3 ⟨rfl, hb3⟩; (have B3 := Lib.hid (B2.out.trans (hb3.mono B2.out.size))); clear hb3)
    | (go_at_call 12; refine (HC'.out _).mono ?_; rintro e w4 ⟨rfl, hb4⟩; (have B4 := Lib.hid (B3.out.trans (hb4.mono B3.out.size))); clear hb4))
  go_ret
  exact ⟨by simp, B4.out⟩
end Go.Proofs.Ytdlimgghcpbkcaa.sha
