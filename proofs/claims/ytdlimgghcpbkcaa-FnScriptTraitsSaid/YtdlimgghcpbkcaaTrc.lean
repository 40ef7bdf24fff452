/-
  Proved: the law FnScriptTraits walked: it returns true for every script and keys.
  Conditions: the keys' lengths are those of machine strings.
-/
import Derived.Test.YtdlimgghcpbkcaaTrb
namespace Go.Proofs.Ytdlimgghcpbkcaa.strs
open Go.RowKit Mem
set_option linter.unusedVariables false

set_option maxRecDepth 100000 in
set_option maxHeartbeats 400000 in
theorem traits6 (s : ByteArray) (hs : s.size ≤ 9223372036854775807) (a : Option Addr) (c : Nat) (ss : List ByteArray) (w : World) (h : Str w a ss) (hn : ss.length ≤ 9223372036854775807) (hz : ∀ s ∈ ss, s.size ≤ 9223372036854775807) :
    Calls Try.prog 6 #[.string s, .slice a ss.length c] w fun e w' => e = .returned (.bool true) ∧ Below w.heap.size w w' := by
  by_cases h1 : 2147483647 < s.size
  · go_enter Try.func6, Try.ntmps6
    go_wp2
    go_ret
    exact ⟨rfl, Below.refl _ _⟩
  have HF := fits16 a c ss w h hn hz
  obtain ⟨r, hr⟩ : ∃ r, (decide (ss.length ≤ 2147483647) && ss.all fun s => decide (s.size ≤ 2147483647)) = r := ⟨_, rfl⟩
  rw [hr] at HF
  replace HF := Lib.hid HF
  cases r
  · go_enter Try.func6, Try.ntmps6
    go_wp2_with (go_at_call 14; refine HF.out.mono ?_; rintro e w2 ⟨rfl, rfl⟩)
    go_ret
    exact ⟨rfl, Below.refl _ _⟩
  have hfit : ss.length ≤ 2147483647 ∧ ∀ x ∈ ss, x.size ≤ 2147483647 := by simpa using hr
  have HR := sright15 s a c ss w h hfit.1 hfit.2 (by omega)
  replace HR := Lib.hid HR
  have HS := Lib.hid h
  clear h hr
  go_enter Try.func6, Try.ntmps6
  go_wp2_with (go_at_call 14; refine HF.out.mono ?_; rintro e w2 ⟨rfl, rfl⟩)
  refine HR.out.mono ?_
  rintro e w2 ⟨r, rfl, hr, rfl⟩
  cases r
  · go_wp2
    go_ret
    exact ⟨rfl, Below.refl _ _⟩
  obtain ⟨hb1, hb2⟩ := hr rfl
  have HT := Lib.hid (traits16 s (by omega) a c ss w HS.out (by omega) (fun e => by
    rcases HS.out.at_ with h0 | ⟨A, off, e2, _⟩
    · exact h0
    · rw [e] at e2; cases e2))
  go_wp2_with (fail)
  refine HT.out.mono ?_
  rintro e w3 ⟨a3, c3, rfl, h3⟩
  have S3 : Str (w3.alloc (.cells #[.slice a3 ss.length c3, .bool true, .bool false, .bool true] 36)) a3 ss := h3.out.1.but ((But.refl [] w3).alloc _).toBelow
  have S3' : Str (w3.alloc (.cells #[.slice a3 ss.length c3, .bool true, .bool false, .bool true] 36)) a ss := (HS.out.but h3.out.2).but ((But.refl [] w3).alloc _).toBelow
  have HSM := Lib.hid (same20 a3 a c3 c ss _ S3 S3' (by omega))
  have B3 : Hid (Below w.heap.size w (w3.alloc (.cells #[.slice a3 ss.length c3, .bool true, .bool false, .bool true] 36))) := Lib.hid (h3.out.2.trans (((But.refl [] w3).alloc _).toBelow.mono h3.out.2.size))
  clear S3 S3'
  go_wp2_with (go_at_call 17; refine HSM.out.mono ?_; rintro e w4 ⟨rfl, rfl⟩)
  go_ret
  exact ⟨by simp, B3.out⟩
end Go.Proofs.Ytdlimgghcpbkcaa.strs
