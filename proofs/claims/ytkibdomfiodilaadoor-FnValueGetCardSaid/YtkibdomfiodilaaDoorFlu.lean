/-
  Proved: plain laws on doubles: one over a finite number is no NaN; what is greater than the greatest number is an infinity.
  Conditions: each law's own.
-/
import Derived.Test.YtkibdomfiodilaaDoorFlt
import Derived.Test.YtkibdomfiodilaaDoorUtfW
namespace Go.Proofs.YtkibdomfiodilaaDoor.flt
open Go.RowKit Mem
set_option linter.unusedVariables false

theorem sw : Ieee.double.signWeight = 2 ^ 63 := by decide
theorem bi : Ieee.double.binade = 2 ^ 52 := by decide
theorem ir : Ieee.double.infRung = 0x7ff0000000000000 := by decide
theorem lp : Ieee.double.leastPlace = -1074 := by decide
theorem read_word (neg : Bool) (rung : Nat) (h : rung ≤ 0x7ff0000000000000) : (Ieee.double.read (Ieee.double.word neg rung)).isNaN = false := by
  have e : Ieee.double.word neg rung % 2 ^ 63 = rung := by
    unfold Ieee.Format.word
    rw [sw]
    split <;> omega
  unfold Ieee.Format.read
  rw [sw, bi, ir, e]
  dsimp only
  split
  · rfl
  split
  · rfl
  rw [if_pos (by omega)]
  rfl
theorem nearest_notNaN (s : Bool) (m : Nat) (e : Int) : (Ieee.double.read (Ieee.double.nearest s m e)).isNaN = false := by
  unfold Ieee.Format.nearest
  split
  · exact read_word _ _ (by omega)
  · exact read_word _ _ (by rw [← ir]; exact Nat.min_le_right ..)
def one : Nat := 4607182418800017408
theorem quo_fin (b : Nat) (h : fin b = true) : ∃ r, floatBits .quo .f64 4607182418800017408 b = some r ∧ (FloatKind.f64.decode r).isNaN = false := by
  obtain ⟨s, m, e, hd⟩ := (fin_iff b).1 h
  have h1 : Ieee.double.read 4607182418800017408 = .number false 4503599627370496 (-52) := by decide
  show ∃ r, Ieee.double.div 4607182418800017408 b = some r ∧ (Ieee.double.read r).isNaN = false
  replace hd : Ieee.double.read b = .number s m e := hd
  unfold Ieee.Format.div
  rw [h1, hd]
  unfold Ieee.Datum.quotient
  by_cases hm : m = 0
  · subst hm
    refine ⟨_, rfl, ?_⟩
    show (Ieee.double.read (Ieee.double.word _ _)).isNaN = false
    exact read_word _ _ (by rw [ir]; exact Nat.le_refl _)
  · dsimp only
    rw [if_neg hm]
    exact ⟨_, rfl, nearest_notNaN _ _ _⟩

/-! ### infinities -/
theorem abs_bits (b : Nat) (h : b < 2 ^ 64) : bits .andNot .u64 (b : Int) 9223372036854775808 = ((b % 2 ^ 63 : Nat) : Int) := by
  have e : (b : Int) = utf.wv (BitVec.ofNat 64 b) := by
    rw [utf.wv, BitVec.toNat_ofNat, Nat.mod_eq_of_lt h]
  have e2 : (9223372036854775808 : Int) = utf.wv 0x8000000000000000#64 := by decide
  rw [e, e2]
  show IntKind.u64.wrap ((BitVec.ofInt 64 (utf.wv (BitVec.ofNat 64 b)) &&& ~~~ BitVec.ofInt 64 (utf.wv 0x8000000000000000#64)).toNat : Int) = _
  rw [utf.wv_ofInt, utf.wv_ofInt]
  have e3 : ~~~ (0x8000000000000000#64) = BitVec.ofNat 64 (2 ^ 63 - 1) := by decide
  rw [e3, BitVec.toNat_and, BitVec.toNat_ofNat, BitVec.toNat_ofNat, Nat.mod_eq_of_lt h, Nat.mod_eq_of_lt (by decide : 2 ^ 63 - 1 < 2 ^ 64), Nat.and_two_pow_sub_one_eq_mod]
  rw [IntKind.wrap_u64]
  omega
/-- Of a finite number's datum. -/
theorem read_num (b : Nat) {s : Bool} {m : Nat} {e : Int} (h : Ieee.double.read b = .number s m e) : Ieee.double.read (b % 2 ^ 63) = .number false m e ∧ m ≤ 9007199254740991 ∧ e ≤ 971 := by
  unfold Ieee.Format.read at h ⊢
  rw [sw, bi, ir, lp] at *
  have e1 : b % 2 ^ 63 % 2 ^ 63 = b % 2 ^ 63 := Nat.mod_mod _ _
  have e2 : b % 2 ^ 63 / 2 ^ 63 % 2 = 0 := by omega
  rw [e1, e2]
  dsimp only at h ⊢
  split at h
  · rename_i c1
    cases h
    rw [if_pos c1]
    exact ⟨rfl, by omega, by omega⟩
  split at h
  · rename_i c1 c2
    cases h
    rw [if_neg c1, if_pos c2]
    refine ⟨rfl, ?_, ?_⟩
    · have := Nat.mod_lt (b % 2 ^ 63) (by decide : 2 ^ 52 > 0)
      omega
    · have : b % 2 ^ 63 / 2 ^ 52 < 2047 := by omega
      omega
  split at h
  · cases h
  · cases h
theorem read_inf (b : Nat) {s : Bool} (h : Ieee.double.read b = .infinity s) : Ieee.double.read (b % 2 ^ 63) = .infinity false := by
  unfold Ieee.Format.read at h ⊢
  rw [sw, bi, ir] at *
  have e1 : b % 2 ^ 63 % 2 ^ 63 = b % 2 ^ 63 := Nat.mod_mod _ _
  have e2 : b % 2 ^ 63 / 2 ^ 63 % 2 = 0 := by omega
  rw [e1, e2]
  dsimp only at h ⊢
  split at h
  · cases h
  rename_i c1
  split at h
  · cases h
  rename_i c2
  split at h
  · rename_i c3
    rw [if_neg c1, if_neg c2, if_pos c3]; rfl
  · cases h
theorem read_nan (b : Nat) {s : Bool} {t : Nat} (h : Ieee.double.read b = .nan s t) : Ieee.double.read (b % 2 ^ 63) = .nan false t := by
  unfold Ieee.Format.read at h ⊢
  rw [sw, bi, ir] at *
  have e1 : b % 2 ^ 63 % 2 ^ 63 = b % 2 ^ 63 := Nat.mod_mod _ _
  have e2 : b % 2 ^ 63 / 2 ^ 63 % 2 = 0 := by omega
  rw [e1, e2]
  dsimp only at h ⊢
  split at h
  · cases h
  rename_i c1
  split at h
  · cases h
  rename_i c2
  split at h
  · cases h
  · rename_i c3
    cases h
    rw [if_neg c1, if_neg c2, if_neg c3]; rfl
theorem read_max : Ieee.double.read 9218868437227405311 = .number false 9007199254740991 971 := by decide
def isInf (b : Nat) : Bool := FloatKind.f64.format.order (b % 2 ^ 63) 9218868437227405311 == some .gt
theorem fin_split (b : Nat) : fin b = (!isInf b && FloatKind.f64.format.order b b == some .eq) := by
  rw [eq_self]
  unfold fin isInf FloatKind.decode Ieee.Format.order
  show (match Ieee.double.read b with | .number .. => true | _ => false) = (!((Ieee.double.read (b % 2 ^ 63)).order (Ieee.double.read 9218868437227405311) == some .gt) && !(Ieee.double.read b).isNaN)
  cases h : Ieee.double.read b with
  | number s m e =>
    obtain ⟨h1, h2, h3⟩ := read_num b h
    rw [h1, read_max]
    have hc : (Ieee.Datum.order (.number false m e) (.number false 9007199254740991 971) == some .gt) = false := by
      simp only [Ieee.Datum.order]
      rw [show min e (971 : Int) = e by omega, Int.sub_self]
      have k1 : Ieee.signed false m (0 : Int).toNat = (m : Int) := by simp [Ieee.signed]
      have k2 : (9007199254740991 : Int) ≤ Ieee.signed false 9007199254740991 (971 - e).toNat := by
        unfold Ieee.signed
        simp only [Bool.false_eq_true, if_false, Nat.shiftLeft_eq]
        have : 9007199254740991 * 1 ≤ 9007199254740991 * 2 ^ (971 - e).toNat := Nat.mul_le_mul_left _ (Nat.two_pow_pos _)
        omega
      rw [k1]
      have k3 : compare (m : Int) (Ieee.signed false 9007199254740991 (971 - e).toNat) ≠ .gt := by
        rw [Ne, Int.compare_eq_gt]
        omega
      simpa using k3
    rw [hc]; rfl
  | infinity s =>
    rw [read_inf b h, read_max]; rfl
  | nan s t =>
    rw [read_nan b h, read_max]; rfl
end Go.Proofs.YtkibdomfiodilaaDoor.flt
