/-
  Proved: for every int, laws.FnPrefixText returns true (the names of the prefixes are those of the protocol's types; another byte is told as the character of that number).
  Conditions: none beyond the given statement's own.
  The frame of the row's step was written by the kit's proof-skeleton.mjs; the walks are this session's.
-/
import Derived.Test.YtciicifdehicgaaRows
import Derived.WalkKit
import Derived.ProofKit
import Derived.OpenShut
import Derived.ShutString
import Derived.Outline
import Derived.WalkLawsBesides
import Derived.WalkSpells
import Derived.Laws.Runes
import Derived.Laws.Cover4
import Derived.Lib.Hide
namespace Go.Proofs.Ytciicifdehicgaa.fnPrefixText
open Go.ChangeShapes Go.WideShapes Go.ChangeAt Go.RowKit
open Go.ChangeMaps (open_string shut_string)
set_option linter.unusedVariables false

theorem own : ownKnob Try.prog.godebug = none := by kernel_rfl

def marks : List Nat := [36, 43, 45, 58, 95, 44, 35, 33, 61, 40, 42, 37, 126, 124, 62, 46, 59]
theorem encode_marks : ∀ n : Fin 256, ∀ c ∈ marks, n.val ≠ c → ((Utf8.encode (n.val : Int)).toList == [UInt8.ofNat c]) = false := by
  decide +kernel
theorem encode_ne (n : Int) (h0 : 0 ≤ n) (h1 : n ≤ 255) (c : Nat) (hc : c ∈ marks) (h : n ≠ c) : ((Utf8.encode n).toList == [UInt8.ofNat c]) = false := by
  have := encode_marks ⟨n.toNat, by omega⟩ c hc (by simp; omega)
  simp only at this
  rw [Int.toNat_of_nonneg h0] at this
  exact this

theorem str36 (w : World) : Calls Try.prog 18 #[.int .u8 36] w fun e w' => e = .returned (.string ⟨#[98, 108, 111, 98, 45, 115, 116, 114, 105, 110, 103]⟩) ∧ w = w' := by
  have e : Utf8.encode 36 = ⟨#[36]⟩ := by kernel_rfl
  go_enter Try.func18, Try.ntmps18
  go_wp2
  go_ret
  exact ⟨rfl, rfl⟩
theorem law36 (w : World) : Calls Try.prog 4 #[.int .i64 36] w fun e w' => e = .returned (.bool true) ∧ Grown w w' := by
  go_enter Try.func4, Try.ntmps4
  go_wp2_with (first | (go_at_call 9; go_in) | (go_at_call 18; refine (str36 _).mono ?_; rintro e w' ⟨rfl, rfl⟩))
  go_ret
  exact ⟨rfl, Grown.refl _⟩

theorem str43 (w : World) : Calls Try.prog 18 #[.int .u8 43] w fun e w' => e = .returned (.string ⟨#[115, 105, 109, 112, 108, 101, 45, 115, 116, 114, 105, 110, 103]⟩) ∧ w = w' := by
  have e : Utf8.encode 43 = ⟨#[43]⟩ := by kernel_rfl
  go_enter Try.func18, Try.ntmps18
  go_wp2
  go_ret
  exact ⟨rfl, rfl⟩
theorem law43 (w : World) : Calls Try.prog 4 #[.int .i64 43] w fun e w' => e = .returned (.bool true) ∧ Grown w w' := by
  go_enter Try.func4, Try.ntmps4
  go_wp2_with (first | (go_at_call 9; go_in) | (go_at_call 18; refine (str43 _).mono ?_; rintro e w' ⟨rfl, rfl⟩))
  go_ret
  exact ⟨rfl, Grown.refl _⟩

theorem str45 (w : World) : Calls Try.prog 18 #[.int .u8 45] w fun e w' => e = .returned (.string ⟨#[115, 105, 109, 112, 108, 101, 45, 101, 114, 114, 111, 114]⟩) ∧ w = w' := by
  have e : Utf8.encode 45 = ⟨#[45]⟩ := by kernel_rfl
  go_enter Try.func18, Try.ntmps18
  go_wp2
  go_ret
  exact ⟨rfl, rfl⟩
theorem law45 (w : World) : Calls Try.prog 4 #[.int .i64 45] w fun e w' => e = .returned (.bool true) ∧ Grown w w' := by
  go_enter Try.func4, Try.ntmps4
  go_wp2_with (first | (go_at_call 9; go_in) | (go_at_call 18; refine (str45 _).mono ?_; rintro e w' ⟨rfl, rfl⟩))
  go_ret
  exact ⟨rfl, Grown.refl _⟩

theorem str58 (w : World) : Calls Try.prog 18 #[.int .u8 58] w fun e w' => e = .returned (.string ⟨#[110, 117, 109, 98, 101, 114]⟩) ∧ w = w' := by
  have e : Utf8.encode 58 = ⟨#[58]⟩ := by kernel_rfl
  go_enter Try.func18, Try.ntmps18
  go_wp2
  go_ret
  exact ⟨rfl, rfl⟩
theorem law58 (w : World) : Calls Try.prog 4 #[.int .i64 58] w fun e w' => e = .returned (.bool true) ∧ Grown w w' := by
  go_enter Try.func4, Try.ntmps4
  go_wp2_with (first | (go_at_call 9; go_in) | (go_at_call 18; refine (str58 _).mono ?_; rintro e w' ⟨rfl, rfl⟩))
  go_ret
  exact ⟨rfl, Grown.refl _⟩

theorem str95 (w : World) : Calls Try.prog 18 #[.int .u8 95] w fun e w' => e = .returned (.string ⟨#[110, 117, 108, 108]⟩) ∧ w = w' := by
  have e : Utf8.encode 95 = ⟨#[95]⟩ := by kernel_rfl
  go_enter Try.func18, Try.ntmps18
  go_wp2
  go_ret
  exact ⟨rfl, rfl⟩
theorem law95 (w : World) : Calls Try.prog 4 #[.int .i64 95] w fun e w' => e = .returned (.bool true) ∧ Grown w w' := by
  go_enter Try.func4, Try.ntmps4
  go_wp2_with (first | (go_at_call 9; go_in) | (go_at_call 18; refine (str95 _).mono ?_; rintro e w' ⟨rfl, rfl⟩))
  go_ret
  exact ⟨rfl, Grown.refl _⟩

theorem str44 (w : World) : Calls Try.prog 18 #[.int .u8 44] w fun e w' => e = .returned (.string ⟨#[100, 111, 117, 98, 108, 101]⟩) ∧ w = w' := by
  have e : Utf8.encode 44 = ⟨#[44]⟩ := by kernel_rfl
  go_enter Try.func18, Try.ntmps18
  go_wp2
  go_ret
  exact ⟨rfl, rfl⟩
theorem law44 (w : World) : Calls Try.prog 4 #[.int .i64 44] w fun e w' => e = .returned (.bool true) ∧ Grown w w' := by
  go_enter Try.func4, Try.ntmps4
  go_wp2_with (first | (go_at_call 9; go_in) | (go_at_call 18; refine (str44 _).mono ?_; rintro e w' ⟨rfl, rfl⟩))
  go_ret
  exact ⟨rfl, Grown.refl _⟩

theorem str35 (w : World) : Calls Try.prog 18 #[.int .u8 35] w fun e w' => e = .returned (.string ⟨#[98, 111, 111, 108, 101, 97, 110]⟩) ∧ w = w' := by
  have e : Utf8.encode 35 = ⟨#[35]⟩ := by kernel_rfl
  go_enter Try.func18, Try.ntmps18
  go_wp2
  go_ret
  exact ⟨rfl, rfl⟩
theorem law35 (w : World) : Calls Try.prog 4 #[.int .i64 35] w fun e w' => e = .returned (.bool true) ∧ Grown w w' := by
  go_enter Try.func4, Try.ntmps4
  go_wp2_with (first | (go_at_call 9; go_in) | (go_at_call 18; refine (str35 _).mono ?_; rintro e w' ⟨rfl, rfl⟩))
  go_ret
  exact ⟨rfl, Grown.refl _⟩

theorem str33 (w : World) : Calls Try.prog 18 #[.int .u8 33] w fun e w' => e = .returned (.string ⟨#[98, 108, 111, 98, 45, 101, 114, 114, 111, 114]⟩) ∧ w = w' := by
  have e : Utf8.encode 33 = ⟨#[33]⟩ := by kernel_rfl
  go_enter Try.func18, Try.ntmps18
  go_wp2
  go_ret
  exact ⟨rfl, rfl⟩
theorem law33 (w : World) : Calls Try.prog 4 #[.int .i64 33] w fun e w' => e = .returned (.bool true) ∧ Grown w w' := by
  go_enter Try.func4, Try.ntmps4
  go_wp2_with (first | (go_at_call 9; go_in) | (go_at_call 18; refine (str33 _).mono ?_; rintro e w' ⟨rfl, rfl⟩))
  go_ret
  exact ⟨rfl, Grown.refl _⟩

theorem str61 (w : World) : Calls Try.prog 18 #[.int .u8 61] w fun e w' => e = .returned (.string ⟨#[118, 101, 114, 98, 97, 116, 105, 109, 45, 115, 116, 114, 105, 110, 103]⟩) ∧ w = w' := by
  have e : Utf8.encode 61 = ⟨#[61]⟩ := by kernel_rfl
  go_enter Try.func18, Try.ntmps18
  go_wp2
  go_ret
  exact ⟨rfl, rfl⟩
theorem law61 (w : World) : Calls Try.prog 4 #[.int .i64 61] w fun e w' => e = .returned (.bool true) ∧ Grown w w' := by
  go_enter Try.func4, Try.ntmps4
  go_wp2_with (first | (go_at_call 9; go_in) | (go_at_call 18; refine (str61 _).mono ?_; rintro e w' ⟨rfl, rfl⟩))
  go_ret
  exact ⟨rfl, Grown.refl _⟩

theorem str40 (w : World) : Calls Try.prog 18 #[.int .u8 40] w fun e w' => e = .returned (.string ⟨#[98, 105, 103, 45, 110, 117, 109, 98, 101, 114]⟩) ∧ w = w' := by
  have e : Utf8.encode 40 = ⟨#[40]⟩ := by kernel_rfl
  go_enter Try.func18, Try.ntmps18
  go_wp2
  go_ret
  exact ⟨rfl, rfl⟩
theorem law40 (w : World) : Calls Try.prog 4 #[.int .i64 40] w fun e w' => e = .returned (.bool true) ∧ Grown w w' := by
  go_enter Try.func4, Try.ntmps4
  go_wp2_with (first | (go_at_call 9; go_in) | (go_at_call 18; refine (str40 _).mono ?_; rintro e w' ⟨rfl, rfl⟩))
  go_ret
  exact ⟨rfl, Grown.refl _⟩

theorem str42 (w : World) : Calls Try.prog 18 #[.int .u8 42] w fun e w' => e = .returned (.string ⟨#[97, 114, 114, 97, 121]⟩) ∧ w = w' := by
  have e : Utf8.encode 42 = ⟨#[42]⟩ := by kernel_rfl
  go_enter Try.func18, Try.ntmps18
  go_wp2
  go_ret
  exact ⟨rfl, rfl⟩
theorem law42 (w : World) : Calls Try.prog 4 #[.int .i64 42] w fun e w' => e = .returned (.bool true) ∧ Grown w w' := by
  go_enter Try.func4, Try.ntmps4
  go_wp2_with (first | (go_at_call 9; go_in) | (go_at_call 18; refine (str42 _).mono ?_; rintro e w' ⟨rfl, rfl⟩))
  go_ret
  exact ⟨rfl, Grown.refl _⟩

theorem str37 (w : World) : Calls Try.prog 18 #[.int .u8 37] w fun e w' => e = .returned (.string ⟨#[109, 97, 112]⟩) ∧ w = w' := by
  have e : Utf8.encode 37 = ⟨#[37]⟩ := by kernel_rfl
  go_enter Try.func18, Try.ntmps18
  go_wp2
  go_ret
  exact ⟨rfl, rfl⟩
theorem law37 (w : World) : Calls Try.prog 4 #[.int .i64 37] w fun e w' => e = .returned (.bool true) ∧ Grown w w' := by
  go_enter Try.func4, Try.ntmps4
  go_wp2_with (first | (go_at_call 9; go_in) | (go_at_call 18; refine (str37 _).mono ?_; rintro e w' ⟨rfl, rfl⟩))
  go_ret
  exact ⟨rfl, Grown.refl _⟩

theorem str126 (w : World) : Calls Try.prog 18 #[.int .u8 126] w fun e w' => e = .returned (.string ⟨#[115, 101, 116]⟩) ∧ w = w' := by
  have e : Utf8.encode 126 = ⟨#[126]⟩ := by kernel_rfl
  go_enter Try.func18, Try.ntmps18
  go_wp2
  go_ret
  exact ⟨rfl, rfl⟩
theorem law126 (w : World) : Calls Try.prog 4 #[.int .i64 126] w fun e w' => e = .returned (.bool true) ∧ Grown w w' := by
  go_enter Try.func4, Try.ntmps4
  go_wp2_with (first | (go_at_call 9; go_in) | (go_at_call 18; refine (str126 _).mono ?_; rintro e w' ⟨rfl, rfl⟩))
  go_ret
  exact ⟨rfl, Grown.refl _⟩

theorem str124 (w : World) : Calls Try.prog 18 #[.int .u8 124] w fun e w' => e = .returned (.string ⟨#[97, 116, 116, 114, 105, 98, 117, 116, 101]⟩) ∧ w = w' := by
  have e : Utf8.encode 124 = ⟨#[124]⟩ := by kernel_rfl
  go_enter Try.func18, Try.ntmps18
  go_wp2
  go_ret
  exact ⟨rfl, rfl⟩
theorem law124 (w : World) : Calls Try.prog 4 #[.int .i64 124] w fun e w' => e = .returned (.bool true) ∧ Grown w w' := by
  go_enter Try.func4, Try.ntmps4
  go_wp2_with (first | (go_at_call 9; go_in) | (go_at_call 18; refine (str124 _).mono ?_; rintro e w' ⟨rfl, rfl⟩))
  go_ret
  exact ⟨rfl, Grown.refl _⟩

theorem str62 (w : World) : Calls Try.prog 18 #[.int .u8 62] w fun e w' => e = .returned (.string ⟨#[112, 117, 115, 104]⟩) ∧ w = w' := by
  have e : Utf8.encode 62 = ⟨#[62]⟩ := by kernel_rfl
  go_enter Try.func18, Try.ntmps18
  go_wp2
  go_ret
  exact ⟨rfl, rfl⟩
theorem law62 (w : World) : Calls Try.prog 4 #[.int .i64 62] w fun e w' => e = .returned (.bool true) ∧ Grown w w' := by
  go_enter Try.func4, Try.ntmps4
  go_wp2_with (first | (go_at_call 9; go_in) | (go_at_call 18; refine (str62 _).mono ?_; rintro e w' ⟨rfl, rfl⟩))
  go_ret
  exact ⟨rfl, Grown.refl _⟩

theorem str46 (w : World) : Calls Try.prog 18 #[.int .u8 46] w fun e w' => e = .returned (.string ⟨#[115, 116, 114, 101, 97, 109, 101, 100, 45, 97, 103, 103, 114, 101, 103, 97, 116, 101, 100, 45, 116, 121, 112, 101, 45, 101, 110, 100]⟩) ∧ w = w' := by
  have e : Utf8.encode 46 = ⟨#[46]⟩ := by kernel_rfl
  go_enter Try.func18, Try.ntmps18
  go_wp2
  go_ret
  exact ⟨rfl, rfl⟩
theorem law46 (w : World) : Calls Try.prog 4 #[.int .i64 46] w fun e w' => e = .returned (.bool true) ∧ Grown w w' := by
  go_enter Try.func4, Try.ntmps4
  go_wp2_with (first | (go_at_call 9; go_in) | (go_at_call 18; refine (str46 _).mono ?_; rintro e w' ⟨rfl, rfl⟩))
  go_ret
  exact ⟨rfl, Grown.refl _⟩

theorem str59 (w : World) : Calls Try.prog 18 #[.int .u8 59] w fun e w' => e = .returned (.string ⟨#[115, 116, 114, 101, 97, 109, 101, 100, 45, 115, 116, 114, 105, 110, 103, 45, 99, 104, 117, 110, 107]⟩) ∧ w = w' := by
  have e : Utf8.encode 59 = ⟨#[59]⟩ := by kernel_rfl
  go_enter Try.func18, Try.ntmps18
  go_wp2
  go_ret
  exact ⟨rfl, rfl⟩
theorem law59 (w : World) : Calls Try.prog 4 #[.int .i64 59] w fun e w' => e = .returned (.bool true) ∧ Grown w w' := by
  go_enter Try.func4, Try.ntmps4
  go_wp2_with (first | (go_at_call 9; go_in) | (go_at_call 18; refine (str59 _).mono ?_; rintro e w' ⟨rfl, rfl⟩))
  go_ret
  exact ⟨rfl, Grown.refl _⟩

theorem strOther (n : Int) (h0 : 0 ≤ n) (h1 : n ≤ 255) (h : n ≠ 36 ∧ n ≠ 43 ∧ n ≠ 45 ∧ n ≠ 58 ∧ n ≠ 95 ∧ n ≠ 44 ∧ n ≠ 35 ∧ n ≠ 33 ∧ n ≠ 61 ∧ n ≠ 40 ∧ n ≠ 42 ∧ n ≠ 37 ∧ n ≠ 126 ∧ n ≠ 124 ∧ n ≠ 62 ∧ n ≠ 46 ∧ n ≠ 59) (w : World) : Calls Try.prog 18 #[.int .u8 n] w fun e w' => e = .returned (.string (Utf8.encode n)) ∧ w = w' := by
  have e36 : ((Utf8.encode n).toList == [36]) = false := encode_ne n h0 h1 36 (by decide) (by omega)
  have e43 : ((Utf8.encode n).toList == [43]) = false := encode_ne n h0 h1 43 (by decide) (by omega)
  have e45 : ((Utf8.encode n).toList == [45]) = false := encode_ne n h0 h1 45 (by decide) (by omega)
  have e58 : ((Utf8.encode n).toList == [58]) = false := encode_ne n h0 h1 58 (by decide) (by omega)
  have e95 : ((Utf8.encode n).toList == [95]) = false := encode_ne n h0 h1 95 (by decide) (by omega)
  have e44 : ((Utf8.encode n).toList == [44]) = false := encode_ne n h0 h1 44 (by decide) (by omega)
  have e35 : ((Utf8.encode n).toList == [35]) = false := encode_ne n h0 h1 35 (by decide) (by omega)
  have e33 : ((Utf8.encode n).toList == [33]) = false := encode_ne n h0 h1 33 (by decide) (by omega)
  have e61 : ((Utf8.encode n).toList == [61]) = false := encode_ne n h0 h1 61 (by decide) (by omega)
  have e40 : ((Utf8.encode n).toList == [40]) = false := encode_ne n h0 h1 40 (by decide) (by omega)
  have e42 : ((Utf8.encode n).toList == [42]) = false := encode_ne n h0 h1 42 (by decide) (by omega)
  have e37 : ((Utf8.encode n).toList == [37]) = false := encode_ne n h0 h1 37 (by decide) (by omega)
  have e126 : ((Utf8.encode n).toList == [126]) = false := encode_ne n h0 h1 126 (by decide) (by omega)
  have e124 : ((Utf8.encode n).toList == [124]) = false := encode_ne n h0 h1 124 (by decide) (by omega)
  have e62 : ((Utf8.encode n).toList == [62]) = false := encode_ne n h0 h1 62 (by decide) (by omega)
  have e46 : ((Utf8.encode n).toList == [46]) = false := encode_ne n h0 h1 46 (by decide) (by omega)
  have e59 : ((Utf8.encode n).toList == [59]) = false := encode_ne n h0 h1 59 (by decide) (by omega)
  clear h
  go_enter Try.func18, Try.ntmps18
  go_wp2
  go_ret
  exact ⟨rfl, rfl⟩
theorem one_rune (n : Int) : runesBytes [n] = Utf8.encode n := by
  unfold runesBytes
  simp
theorem lawOther (n : Int) (h0 : 0 ≤ n) (h1 : n ≤ 255) (h : n ≠ 36 ∧ n ≠ 43 ∧ n ≠ 45 ∧ n ≠ 58 ∧ n ≠ 95 ∧ n ≠ 44 ∧ n ≠ 35 ∧ n ≠ 33 ∧ n ≠ 61 ∧ n ≠ 40 ∧ n ≠ 42 ∧ n ≠ 37 ∧ n ≠ 126 ∧ n ≠ 124 ∧ n ≠ 62 ∧ n ≠ 46 ∧ n ≠ 59) (w : World) : Calls Try.prog 4 #[.int .i64 n] w fun e w' => e = .returned (.bool true) ∧ Grown w w' := by
  have HH := Lib.hid h
  have n36 : ((n : Int) == 36) = false := by simp; omega
  have n43 : ((n : Int) == 43) = false := by simp; omega
  have n45 : ((n : Int) == 45) = false := by simp; omega
  have n58 : ((n : Int) == 58) = false := by simp; omega
  have n95 : ((n : Int) == 95) = false := by simp; omega
  have n44 : ((n : Int) == 44) = false := by simp; omega
  have n35 : ((n : Int) == 35) = false := by simp; omega
  have n33 : ((n : Int) == 33) = false := by simp; omega
  have n61 : ((n : Int) == 61) = false := by simp; omega
  have n40 : ((n : Int) == 40) = false := by simp; omega
  have n42 : ((n : Int) == 42) = false := by simp; omega
  have n37 : ((n : Int) == 37) = false := by simp; omega
  have n126 : ((n : Int) == 126) = false := by simp; omega
  have n124 : ((n : Int) == 124) = false := by simp; omega
  have n62 : ((n : Int) == 62) = false := by simp; omega
  have n46 : ((n : Int) == 46) = false := by simp; omega
  have n59 : ((n : Int) == 59) = false := by simp; omega
  clear h
  have kc := fun (W : World) => run_convert_runes (P := Try.prog) W 26 9 21 ⟨w.heap.size, 0, none⟩ 1 1 [n] (by simp) Try.underlying26 Try.underlying21 Try.underlying9
  go_enter Try.func4, Try.ntmps4
  go_wp2_with (first | (go_at_call 9; go_in) | (go_at_call 18; refine (strOther _ h0 h1 HH.out _).mono ?_; rintro e w' ⟨rfl, rfl⟩))
  go_ret
  exact ⟨by simp [one_rune], (Grown.refl _).alloc _ _⟩
theorem outside (n : Int) (h : n < 0 ∨ 255 < n) (w : World) : Calls Try.prog 4 #[.int .i64 n] w fun e w' => e = .returned (.bool true) ∧ Grown w w' := by
  by_cases h1 : n < 0
  · go_enter Try.func4, Try.ntmps4
    go_wp2
    go_ret
    exact ⟨rfl, Grown.refl _⟩
  · have h2 : 255 < n := by omega
    clear h
    go_enter Try.func4, Try.ntmps4
    go_wp2
    go_ret
    exact ⟨rfl, Grown.refl _⟩
theorem walk (a0 : Int) (w0 : (Lit.int .i64 a0).wf = true) (w : World) :
    Calls Try.prog 4 #[.int .i64 a0] w fun e w' => e = .returned (.bool true) ∧ Grown w w' := by
  by_cases h : a0 < 0 ∨ 255 < a0
  · exact outside a0 h w
  by_cases q36 : a0 = 36
  · subst q36; exact law36 w
  by_cases q43 : a0 = 43
  · subst q43; exact law43 w
  by_cases q45 : a0 = 45
  · subst q45; exact law45 w
  by_cases q58 : a0 = 58
  · subst q58; exact law58 w
  by_cases q95 : a0 = 95
  · subst q95; exact law95 w
  by_cases q44 : a0 = 44
  · subst q44; exact law44 w
  by_cases q35 : a0 = 35
  · subst q35; exact law35 w
  by_cases q33 : a0 = 33
  · subst q33; exact law33 w
  by_cases q61 : a0 = 61
  · subst q61; exact law61 w
  by_cases q40 : a0 = 40
  · subst q40; exact law40 w
  by_cases q42 : a0 = 42
  · subst q42; exact law42 w
  by_cases q37 : a0 = 37
  · subst q37; exact law37 w
  by_cases q126 : a0 = 126
  · subst q126; exact law126 w
  by_cases q124 : a0 = 124
  · subst q124; exact law124 w
  by_cases q62 : a0 = 62
  · subst q62; exact law62 w
  by_cases q46 : a0 = 46
  · subst q46; exact law46 w
  by_cases q59 : a0 = 59
  · subst q59; exact law59 w
  exact lawOther a0 (by omega) (by omega) ⟨q36, q43, q45, q58, q95, q44, q35, q33, q61, q40, q42, q37, q126, q124, q62, q46, q59⟩ w

/-! ### THE ROW's STEP: WRITTEN OUT: LEAVE IT -/
set_option maxRecDepth 100000 in
theorem lifted (os : Os) (started : os.Started) (H : Type) (enc : TypeId × Value → H) :
    ReturnsInHanded {} Try.checked os 4 .any (Rows.fnPrefixTextSpec.pre6 enc Try.prog Try.f4 Rows.fnPrefixTextRow.domain false) (Rows.fnPrefixTextSpec.post enc Try.prog Try.f4 false true false false) := by
  refine returnsInHanded_of_change (C := Try.checked) own started (by kernel_rfl) Try.func4
    (ChangeSpec.witness6 (enc := enc) (C := Try.checked) false ⟨#[], #[.int .i64 0], []⟩ 8 (by kernel_rfl) (by kernel_rfl) (by kernel_rfl) (by kernel_rfl)) ?_
  intro W base args ds gs before hval0 hW hcnd _
  have hval : ∀ (j : Nat) t v, Try.f4.params[j]? = some t → args[j]? = some v → Value.okWide Try.prog W .any base t v := hval0
  have hW' := hW
  obtain ⟨p, q, hA0, hV, rfl, hfz, hnd⟩ := hW
  have hA : DataW.TrodAll enc Try.prog W 0 (fun _ => true) true Try.f4.params.toList args.toList ds p := hA0
  rw [Try.params4] at hA hval
  obtain ⟨v0, vs0, d0, ds0, p0, q0, hargs, rfl, rfl, h0, r0⟩ := trodAll_cons hA
  obtain ⟨rfl, rfl, rfl⟩ := trodAll_nil r0
  obtain rfl : args = #[v0] := by cases args; simp_all
  obtain ⟨rfl, rfl⟩ := trodVars_none hV
  obtain ⟨a0, rfl, rfl, rfl, w0⟩ := open_int Try.underlying3 (hval 0 3 v0 rfl rfl) h0
  clear hA0 hval0
  simp only [List.append_nil] at hW'
  refine (walk a0 w0 W).mono fun e W' ⟨he, hg⟩ => ?_
  subst he
  exact ⟨_, rfl, post_of_same (pa := []) (pv := []) hW' (fun _ _ _ => (trodAll_cons_mk (shut_bool Try.underlying4 _) trodAll_mk0)) (fun sp _ => (trodAll_cons_mk (shut_int Try.underlying3 w0) trodAll_mk0)) (fun _ _ => rfl) rfl
    (hg.frame _) hg.2.1 (ok_one (by kernel_rfl) rfl (okWide_bool_mk Try.underlying4 _))⟩

theorem over : Rows.fnPrefixTextRow.holds Try.pinned (OpenSpec.ofChange Rows.fnPrefixTextSpec) :=
  OpenClaim.holds_of_wide 4 Try.f4 rfl rfl rfl rfl rfl rfl rfl ⟨rfl, rfl, rfl, rfl, rfl⟩ rfl rfl rfl rfl rfl (by kernel_rfl) Try.func4 (by kernel_rfl)
    (of_decide_eq_true (by kernel_rfl)) (by unfold Func.isWrapper; first | (rw [if_pos (by decide +kernel)]; kernel_rfl) | (rw [if_neg (by decide +kernel)]; exact ⟨rfl, rfl⟩))
    (fun os started H enc _ => lifted os started H enc)

theorem proved : Rows.FnPrefixTextSaid :=
  over
#print axioms proved
end Go.Proofs.Ytciicifdehicgaa.fnPrefixText
