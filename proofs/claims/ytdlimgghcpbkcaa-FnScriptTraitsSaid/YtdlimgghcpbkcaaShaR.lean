/-
  Proved: the contracts of math/bits.RotateLeft32, of spec.turned and of spec.mixed.
  Conditions: words; the turns are those that SHA-1 makes (1, 5, 30).
-/
import Derived.Test.YtdlimgghcpbkcaaShaB
import Derived.Outline
import Derived.WalkLawsBesides
import Derived.WalkSpells
import Derived.Lib.Hide
import Derived.Laws.BitsAllLaws
import Derived.Great.Walk
namespace Go.Proofs.Ytdlimgghcpbkcaa.sha
open Go.RowKit Mem
set_option linter.unusedVariables false

theorem rot_b (x : BitVec 32) (k : Nat) (m n : Int) (hm : m = 2 ^ k) (hn : n = 2 ^ (32 - k)) : bits .or .u32 (IntKind.u32.wrap (iv x * m)) (iv x / n) = iv (rot x k) := by
  subst hm hn
  have h := rotI_iv x k
  unfold rotI at h
  rw [Int.fdiv_eq_ediv_of_nonneg _ (Int.le_of_lt (Int.pow_pos (by decide)))] at h
  exact h

theorem rot70 (x : BitVec 32) (k : Nat) (hk : k = 1 ∨ k = 5 ∨ k = 30) (w : World) : Calls Try.prog 70 #[.int .u32 (iv x), .int .i64 (k : Int)] w
    fun e w' => e = .returned (.int .u32 (iv (rot x k))) ∧ w = w' := by
  have h0 := iv_lo x
  have h1 := iv_hi x
  rcases hk with rfl | rfl | rfl
  · have HE := Lib.hid (rot_b x 1 2 2147483648 (by decide) (by decide))
    have hb : bits .and .u64 1 31 = 1 := by decide
    go_enter Try.func70, Try.ntmps70
    go_wp2
    go_ret
    exact ⟨by rw [← HE.out, IntKind.wrap_u32]; rfl, rfl⟩
  · have HE := Lib.hid (rot_b x 5 32 134217728 (by decide) (by decide))
    have hb : bits .and .u64 5 31 = 5 := by decide
    go_enter Try.func70, Try.ntmps70
    go_wp2
    go_ret
    exact ⟨by rw [← HE.out, IntKind.wrap_u32]; rfl, rfl⟩
  · have HE := Lib.hid (rot_b x 30 1073741824 4 (by decide) (by decide))
    have hb : bits .and .u64 30 31 = 30 := by decide
    go_enter Try.func70, Try.ntmps70
    go_wp2
    go_ret
    exact ⟨by rw [← HE.out, IntKind.wrap_u32]; rfl, rfl⟩

theorem turned43 (x : BitVec 32) (k : Nat) (hk : k = 1 ∨ k = 5 ∨ k = 30) (w : World) : Calls Try.prog 43 #[.int .u32 (iv x), .int .i64 (k : Int)] w
    fun e w' => e = .returned (.int .u32 (iv (rot x k))) ∧ w.drew = w' := by
  have h0 := iv_lo x
  have h1 := iv_hi x
  rcases hk with rfl | rfl | rfl
  · have HE := Lib.hid (rot_b x 1 2 2147483648 (by decide) (by decide))
    go_enter Try.func43, Try.ntmps43
    go_wp2
    go_region
    go_wp2
    go_ret
    exact ⟨by rw [← HE.out, IntKind.wrap_u32]; rfl, rfl⟩
  · have HE := Lib.hid (rot_b x 5 32 134217728 (by decide) (by decide))
    go_enter Try.func43, Try.ntmps43
    go_wp2
    go_region
    go_wp2
    go_ret
    exact ⟨by rw [← HE.out, IntKind.wrap_u32]; rfl, rfl⟩
  · have HE := Lib.hid (rot_b x 30 1073741824 4 (by decide) (by decide))
    go_enter Try.func43, Try.ntmps43
    go_wp2
    go_region
    go_wp2
    go_ret
    exact ⟨by rw [← HE.out, IntKind.wrap_u32]; rfl, rfl⟩

theorem turned43_1 (x : BitVec 32) (w : World) : Calls Try.prog 43 #[.int .u32 (iv x), .int .i64 1] w
    fun e w' => e = .returned (.int .u32 (iv (rot x 1))) ∧ w.drew = w' := turned43 x 1 (by simp) w
theorem rot70_1 (x : BitVec 32) (w : World) : Calls Try.prog 70 #[.int .u32 (iv x), .int .i64 1] w
    fun e w' => e = .returned (.int .u32 (iv (rot x 1))) ∧ w = w' := rot70 x 1 (by simp) w
theorem turned43_5 (x : BitVec 32) (w : World) : Calls Try.prog 43 #[.int .u32 (iv x), .int .i64 5] w
    fun e w' => e = .returned (.int .u32 (iv (rot x 5))) ∧ w.drew = w' := turned43 x 5 (by simp) w
theorem rot70_5 (x : BitVec 32) (w : World) : Calls Try.prog 70 #[.int .u32 (iv x), .int .i64 5] w
    fun e w' => e = .returned (.int .u32 (iv (rot x 5))) ∧ w = w' := rot70 x 5 (by simp) w
theorem turned43_30 (x : BitVec 32) (w : World) : Calls Try.prog 43 #[.int .u32 (iv x), .int .i64 30] w
    fun e w' => e = .returned (.int .u32 (iv (rot x 30))) ∧ w.drew = w' := turned43 x 30 (by simp) w
theorem rot70_30 (x : BitVec 32) (w : World) : Calls Try.prog 70 #[.int .u32 (iv x), .int .i64 30] w
    fun e w' => e = .returned (.int .u32 (iv (rot x 30))) ∧ w = w' := rot70 x 30 (by simp) w
theorem turned43q_1 (x : BitVec 32) (w : World) : Calls Try.prog 43 #[.int .u32 (iv x), .int .i64 1] w
    fun e w' => e = .returned (.int .u32 (iv (rot x 1))) ∧ ∃ m, w' = w.drewN m := (turned43_1 x w).mono fun e w' ⟨he, hw⟩ => ⟨he, 1, hw.symm⟩
theorem turned43q_5 (x : BitVec 32) (w : World) : Calls Try.prog 43 #[.int .u32 (iv x), .int .i64 5] w
    fun e w' => e = .returned (.int .u32 (iv (rot x 5))) ∧ ∃ m, w' = w.drewN m := (turned43_5 x w).mono fun e w' ⟨he, hw⟩ => ⟨he, 1, hw.symm⟩
theorem turned43q_30 (x : BitVec 32) (w : World) : Calls Try.prog 43 #[.int .u32 (iv x), .int .i64 30] w
    fun e w' => e = .returned (.int .u32 (iv (rot x 30))) ∧ ∃ m, w' = w.drewN m := (turned43_30 x w).mono fun e w' ⟨he, hw⟩ => ⟨he, 1, hw.symm⟩
theorem mixed44 (t : Nat) (ht : t < 80) (b c d : BitVec 32) (w : World) : Calls Try.prog 44 #[.int .i64 (t : Int), .int .u32 (iv b), .int .u32 (iv c), .int .u32 (iv d)] w
    fun e w' => e = .returned (.tuple #[.int .u32 (iv (mixF t b c d)), .int .u32 (iv (mixK t))]) ∧ w = w' := by
  have hs : IntKind.u32.signed = false := rfl
  have hm : IntKind.u32.max = 4294967295 := by decide
  have hN := iv_not b
  have hN' := iv_not' b
  by_cases h1 : t < 20
  · have hq : (t : Int) / 20 = 0 := by omega
    have e1 : mixF t b c d = fch b c d := by unfold mixF; rw [if_pos h1]
    have e2 : iv (mixK t) = 1518500249 := by unfold mixK; rw [if_pos h1]; decide
    have E1 := Lib.hid e1; have E2 := Lib.hid e2; clear e1 e2 h1
    go_enter Try.func44, Try.ntmps44
    go_wp2
    go_ret2
    exact ⟨by rw [E1.out, E2.out, fch]; simp only [← iv_xor, ← iv_and]; rfl, rfl⟩
  by_cases h2 : t < 40
  · have hq : (t : Int) / 20 = 1 := by omega
    have e1 : mixF t b c d = fpar b c d := by unfold mixF; rw [if_neg h1]; rw [if_pos h2]
    have e2 : iv (mixK t) = 1859775393 := by unfold mixK; rw [if_neg h1]; rw [if_pos h2]; decide
    have E1 := Lib.hid e1; have E2 := Lib.hid e2; clear e1 e2 h1 h2
    go_enter Try.func44, Try.ntmps44
    go_wp2
    go_ret2
    exact ⟨by rw [E1.out, E2.out, fpar]; simp only [← iv_xor]; rfl, rfl⟩
  by_cases h3 : t < 60
  · have hq : (t : Int) / 20 = 2 := by omega
    have e1 : mixF t b c d = fmaj b c d := by unfold mixF; rw [if_neg h1]; rw [if_neg h2]; rw [if_pos h3]
    have e2 : iv (mixK t) = 2400959708 := by unfold mixK; rw [if_neg h1]; rw [if_neg h2]; rw [if_pos h3]; decide
    have E1 := Lib.hid e1; have E2 := Lib.hid e2; clear e1 e2 h1 h2 h3
    go_enter Try.func44, Try.ntmps44
    go_wp2
    go_ret2
    exact ⟨by rw [E1.out, E2.out, fmaj]; simp only [← iv_xor, ← iv_and]; rfl, rfl⟩
  · have hq : (t : Int) / 20 = 3 := by omega
    have e1 : mixF t b c d = fpar b c d := by unfold mixF; rw [if_neg h1]; rw [if_neg h2]; rw [if_neg h3]
    have e2 : iv (mixK t) = 3395469782 := by unfold mixK; rw [if_neg h1]; rw [if_neg h2]; rw [if_neg h3]; decide
    have E1 := Lib.hid e1; have E2 := Lib.hid e2; clear e1 e2 h1 h2 h3
    go_enter Try.func44, Try.ntmps44
    go_wp2
    go_ret2
    exact ⟨by rw [E1.out, E2.out, fpar]; simp only [← iv_xor]; rfl, rfl⟩
end Go.Proofs.Ytdlimgghcpbkcaa.sha
