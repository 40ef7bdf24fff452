/-
  Proved: the library's validity of UTF-8 (by its decoder) is that of the plain table of lead bytes.
  Conditions: none.
-/
import Derived.Test.YtlcbcgillekphaaDoorUtf
import Derived.Lib.ValidU
import Derived.Lib.TrimUEq
import Derived.Lib.DecodeN
namespace Go.Proofs.YtlcbcgillekphaaDoor.utf
open Go.RowKit Mem Go.Lib
set_option linter.unusedVariables false

/-- The next bytes of a text, and nought beyond its end. -/
theorem tail1 (lo hi : Nat) (t : List UInt8) : tailOk 1 lo hi t = true ↔ 1 ≤ t.length ∧ lo ≤ (t.getD 0 0).toNat ∧ (t.getD 0 0).toNat ≤ hi := by
  match t with
  | [] => simp [tailOk]
  | a :: r => simp [tailOk, inr]
theorem tail2 (lo hi : Nat) (t : List UInt8) : tailOk 2 lo hi t = true ↔ 2 ≤ t.length ∧ (lo ≤ (t.getD 0 0).toNat ∧ (t.getD 0 0).toNat ≤ hi) ∧ (128 ≤ (t.getD 1 0).toNat ∧ (t.getD 1 0).toNat ≤ 191) := by
  match t with
  | [] => simp [tailOk]
  | [a] => simp [tailOk, inr]
  | a :: b :: r => simp [tailOk, inr]
theorem tail3 (lo hi : Nat) (t : List UInt8) : tailOk 3 lo hi t = true ↔ 3 ≤ t.length ∧ (lo ≤ (t.getD 0 0).toNat ∧ (t.getD 0 0).toNat ≤ hi) ∧ (128 ≤ (t.getD 1 0).toNat ∧ (t.getD 1 0).toNat ≤ 191) ∧ (128 ≤ (t.getD 2 0).toNat ∧ (t.getD 2 0).toNat ≤ 191) := by
  match t with
  | [] => simp [tailOk]
  | [a] => simp [tailOk, inr]
  | [a, b] => simp [tailOk, inr]
  | a :: b :: c :: r => simp [tailOk, inr, and_assoc]

def Good (k lo hi : Nat) (t : List UInt8) (d : Nat × Nat) : Prop :=
  (tailOk k lo hi t = true ∧ d.2 = k + 1 ∧ ¬ (d.1 = 65533 ∧ d.2 = 1)) ∨ (tailOk k lo hi t = false ∧ d = (65533, 1))
theorem good1 (b0 lo hi : Nat) (t : List UInt8) : Good 1 lo hi t (slowN (t.length + 1) b0 (t.getD 0 0).toNat (t.getD 1 0).toNat (t.getD 2 0).toNat 2 lo hi) := by
  unfold Good
  rw [← Bool.not_eq_true, tail1]
  unfold slowN
  repeat' split
  all_goals first | (exfalso; omega) | (right; refine ⟨by omega, rfl⟩) | (left; refine ⟨by omega, rfl, by simp⟩)
theorem good2 (b0 lo hi : Nat) (t : List UInt8) : Good 2 lo hi t (slowN (t.length + 1) b0 (t.getD 0 0).toNat (t.getD 1 0).toNat (t.getD 2 0).toNat 3 lo hi) := by
  unfold Good
  rw [← Bool.not_eq_true, tail2]
  unfold slowN
  repeat' split
  all_goals first | (exfalso; omega) | (right; refine ⟨by omega, rfl⟩) | (left; refine ⟨by omega, rfl, by simp⟩)
theorem good3 (b0 lo hi : Nat) (t : List UInt8) : Good 3 lo hi t (slowN (t.length + 1) b0 (t.getD 0 0).toNat (t.getD 1 0).toNat (t.getD 2 0).toNat 4 lo hi) := by
  unfold Good
  rw [← Bool.not_eq_true, tail3]
  unfold slowN
  repeat' split
  all_goals first | (exfalso; omega) | (right; refine ⟨by omega, rfl⟩) | (left; refine ⟨by omega, rfl, by simp⟩)

/-- What the decoder says of a text that begins with c. -/
theorem dec (c : UInt8) (t : List UInt8) : match lead c.toNat with
    | none => decodeL (c :: t) = (65533, 1)
    | some (k, lo, hi) => Good k lo hi t (decodeL (c :: t)) := by
  have hd : decodeL (c :: t) = decodeN (t.length + 1) c.toNat (t.getD 0 0).toNat (t.getD 1 0).toNat (t.getD 2 0).toNat := by
    rw [decodeL_N]; rfl
  rw [hd]
  have hc := c.toNat_lt
  have h1 := (t.getD 0 0).toNat_lt
  have h2 := (t.getD 1 0).toNat_lt
  have h3 := (t.getD 2 0).toNat_lt
  generalize hb : c.toNat = b0 at *
  have n1 : 1 ≤ t.length + 1 := by omega
  by_cases c0 : b0 < 128
  · have e : lead b0 = some (0, 128, 191) := by rw [lead, if_pos c0]
    rw [e]
    refine .inl ⟨rfl, ?_, ?_⟩
    · rw [decodeN, if_pos c0]
    · rw [decodeN, if_pos c0]; simp; omega
  by_cases c1 : 194 ≤ b0 ∧ b0 ≤ 223
  · have e : lead b0 = some (1, 128, 191) := by rw [lead, if_neg c0, if_pos c1]
    rw [e, ← slow_C2 (t.length + 1) b0 _ _ _ n1 h1 h2 h3 (by omega)]
    exact good1 ..
  by_cases c2 : 224 ≤ b0 ∧ b0 ≤ 239
  · by_cases d0 : b0 = 224
    · have e : lead b0 = some (2, 160, 191) := by rw [lead, if_neg c0, if_neg c1, if_pos c2, if_pos d0, if_neg (by omega)]
      rw [e, ← slow_E0 (t.length + 1) b0 _ _ _ n1 h1 h2 h3 (by omega)]
      exact good2 ..
    by_cases d1 : b0 = 237
    · have e : lead b0 = some (2, 128, 159) := by rw [lead, if_neg c0, if_neg c1, if_pos c2, if_neg d0, if_pos d1]
      rw [e, ← slow_ED (t.length + 1) b0 _ _ _ n1 h1 h2 h3 (by omega)]
      exact good2 ..
    · have e : lead b0 = some (2, 128, 191) := by rw [lead, if_neg c0, if_neg c1, if_pos c2, if_neg d0, if_neg d1]
      rw [e, ← slow_E1 (t.length + 1) b0 _ _ _ n1 h1 h2 h3 (by omega)]
      exact good2 ..
  by_cases c3 : 240 ≤ b0 ∧ b0 ≤ 244
  · by_cases d0 : b0 = 240
    · have e : lead b0 = some (3, 144, 191) := by rw [lead, if_neg c0, if_neg c1, if_neg c2, if_pos c3, if_pos d0, if_neg (by omega)]
      rw [e, ← slow_F0 (t.length + 1) b0 _ _ _ n1 h1 h2 h3 (by omega)]
      exact good3 ..
    by_cases d1 : b0 = 244
    · have e : lead b0 = some (3, 128, 143) := by rw [lead, if_neg c0, if_neg c1, if_neg c2, if_pos c3, if_neg d0, if_pos d1]
      rw [e, ← slow_F4 (t.length + 1) b0 _ _ _ n1 h1 h2 h3 (by omega)]
      exact good3 ..
    · have e : lead b0 = some (3, 128, 191) := by rw [lead, if_neg c0, if_neg c1, if_neg c2, if_pos c3, if_neg d0, if_neg d1]
      rw [e, ← slow_F1 (t.length + 1) b0 _ _ _ n1 h1 h2 h3 (by omega)]
      exact good3 ..
  · have e : lead b0 = none := by rw [lead, if_neg c0, if_neg c1, if_neg c2, if_neg c3]
    rw [e]
    show decodeN _ _ _ _ _ = _
    unfold decodeN
    repeat' split
    all_goals first | rfl | (exfalso; omega)

theorem validGoD_V : ∀ (f : Nat) (l : List UInt8), l.length ≤ f → validGoD f l = V l := by
  intro f
  induction f with
  | zero =>
    intro l h
    obtain rfl : l = [] := List.eq_nil_of_length_eq_zero (by omega)
    rfl
  | succ f ih =>
    intro l h
    cases l with
    | nil => rfl
    | cons c t =>
      have hd := dec c t
      simp only [List.length_cons] at h
      rw [validGoD, if_neg (by simp)]
      cases hl : lead c.toNat with
      | none =>
        rw [hl] at hd
        simp only at hd
        rw [hd, V_none c t hl]; rfl
      | some x =>
        obtain ⟨k, lo, hi⟩ := x
        rw [hl] at hd
        simp only at hd
        rw [V_some c t hl]
        rcases hd with ⟨h1, h2, h3⟩ | ⟨h1, h2⟩
        · rw [if_neg h3, h1, Bool.true_and, h2, List.drop_succ_cons]
          exact ih _ (by rw [List.length_drop]; omega)
        · rw [h2, h1]; rfl
theorem validD_V (l : List UInt8) : validD l = V l := validGoD_V _ l (Nat.le_refl _)
end Go.Proofs.YtlcbcgillekphaaDoor.utf
