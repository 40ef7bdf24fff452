/-
  Proved: plain laws on well formed UTF-8, and on finite doubles: no program in sight.
  Conditions: each law's own.
-/
import Derived.Test.YtlcbcgillekphaaDoorMem
namespace Go.Proofs.YtlcbcgillekphaaDoor.utf
open Go.RowKit Mem
set_option linter.unusedVariables false

def inr (lo hi : Nat) (x : UInt8) : Bool := decide (lo ≤ x.toNat) && decide (x.toNat ≤ hi)
/-- The next n bytes go on a rune: the first of them from lo to hi. -/
def tailOk : Nat → Nat → Nat → List UInt8 → Bool
  | 0, _, _, _ => true
  | _ + 1, _, _, [] => false
  | n + 1, lo, hi, x :: t => inr lo hi x && tailOk n 128 191 t
/-- A first byte: how many follow, and from where to where the first of them is. -/
def lead (c : Nat) : Option (Nat × Nat × Nat) :=
  if c < 128 then some (0, 128, 191)
  else if 194 ≤ c ∧ c ≤ 223 then some (1, 128, 191)
  else if 224 ≤ c ∧ c ≤ 239 then some (2, if c = 224 then 160 else 128, if c = 237 then 159 else 191)
  else if 240 ≤ c ∧ c ≤ 244 then some (3, if c = 240 then 144 else 128, if c = 244 then 143 else 191)
  else none
def valid : Nat → List UInt8 → Bool
  | _, [] => true
  | 0, _ :: _ => false
  | f + 1, c :: t => match lead c.toNat with
    | none => false
    | some (n, lo, hi) => tailOk n lo hi t && valid f (t.drop n)
theorem valid_more (f : Nat) : ∀ l : List UInt8, l.length ≤ f → ∀ g, l.length ≤ g → valid f l = valid g l := by
  induction f with
  | zero =>
    intro l h g hg
    obtain rfl : l = [] := List.eq_nil_of_length_eq_zero (by omega)
    cases g <;> rfl
  | succ f ih =>
    intro l h g hg
    cases l with
    | nil => cases g <;> rfl
    | cons c t =>
      simp only [List.length_cons] at h hg
      cases g with
      | zero => omega
      | succ g =>
        simp only [valid]
        split
        · rfl
        · rename_i n lo hi e
          rw [ih (t.drop n) (by rw [List.length_drop]; omega) g (by rw [List.length_drop]; omega)]
/-- Well formed UTF-8. -/
def V (l : List UInt8) : Bool := valid l.length l
theorem V_nil : V [] = true := rfl
theorem V_cons (c : UInt8) (t : List UInt8) : V (c :: t) = match lead c.toNat with
    | none => false
    | some (n, lo, hi) => tailOk n lo hi t && V (t.drop n) := by
  unfold V
  simp only [List.length_cons, valid]
  split
  · rfl
  · rename_i n lo hi e
    rw [valid_more t.length (t.drop n) (by rw [List.length_drop]; omega) (t.drop n).length (Nat.le_refl _)]
theorem V_ascii (c : UInt8) (t : List UInt8) (h : c.toNat < 128) : V (c :: t) = V t := by
  rw [V_cons, lead, if_pos h]
  simp [tailOk]
/-- Bytes below 128 ahead count for nothing. -/
theorem V_asciis : ∀ (n : Nat) (l : List UInt8), (∀ i, i < n → (l.getD i 0).toNat < 128) → V (l.drop n) = V l
  | 0, l, _ => by simp
  | n + 1, [], _ => by simp
  | n + 1, c :: t, h => by
    rw [List.drop_succ_cons, V_ascii c t (by simpa using h 0 (by omega))]
    exact V_asciis n t fun i hi => by simpa using h (i + 1) (by omega)
theorem V_none (c : UInt8) (t : List UInt8) (h : lead c.toNat = none) : V (c :: t) = false := by rw [V_cons, h]
theorem V_some (c : UInt8) (t : List UInt8) {n lo hi : Nat} (h : lead c.toNat = some (n, lo, hi)) : V (c :: t) = (tailOk n lo hi t && V (t.drop n)) := by rw [V_cons, h]
end Go.Proofs.YtlcbcgillekphaaDoor.utf
