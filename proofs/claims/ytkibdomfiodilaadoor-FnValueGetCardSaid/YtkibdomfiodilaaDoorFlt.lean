/-
  Proved: plain laws on finite doubles (the model's own arithmetic of bits): no program in sight.
  Conditions: each law's own.
-/
import Derived.Test.YtkibdomfiodilaaDoorMem
import Derived.WalkLawsBesides
namespace Go.Proofs.YtkibdomfiodilaaDoor.flt
open Go.RowKit Mem
set_option linter.unusedVariables false

/-- A double is finite. -/
def fin (b : Nat) : Bool := match FloatKind.f64.decode b with | .number .. => true | _ => false
theorem fin_iff (b : Nat) : fin b = true ↔ ∃ s m e, FloatKind.f64.decode b = .number s m e := by
  unfold fin
  cases h : FloatKind.f64.decode b <;> simp
theorem signed_opp (s : Bool) (m : Nat) : Ieee.signed s m 0 + Ieee.signed (!s) m 0 = 0 := by
  unfold Ieee.signed
  cases s <;> simp <;> omega
theorem sub_self (b : Nat) (h : fin b = true) : floatBits .sub .f64 b b = some 0 := by
  obtain ⟨s, m, e, hd⟩ := (fin_iff b).1 h
  unfold FloatKind.decode at hd
  have h2 := signed_opp s m
  simp [floatBits, Ieee.Format.sub, hd, Ieee.Datum.opposite, Ieee.Datum.sum, h2]
  rfl
theorem sub_none (b : Nat) (h : fin b = false) : floatBits .sub .f64 b b = none := by
  unfold fin FloatKind.decode at h
  simp only [floatBits, Ieee.Format.sub]
  cases hd : FloatKind.f64.format.read b with
  | number s m e => rw [hd] at h; cases h
  | infinity s => cases s <;> rfl
  | nan s t => rfl
theorem order_self (d : Ieee.Datum) : d.order d = if d.isNaN then none else some .eq := by
  cases d with
  | number s m e => simp [Ieee.Datum.order, Ieee.Datum.isNaN]
  | infinity s => simp [Ieee.Datum.order, Ieee.Datum.isNaN]
  | nan s t => rfl
theorem eq_self (b : Nat) : (FloatKind.f64.format.order b b == some .eq) = !(FloatKind.f64.decode b).isNaN := by
  unfold Ieee.Format.order FloatKind.decode
  rw [order_self]
  cases (FloatKind.f64.format.read b).isNaN <;> rfl
theorem fin_notNaN (b : Nat) (h : fin b = true) : (FloatKind.f64.decode b).isNaN = false := by
  obtain ⟨s, m, e, hd⟩ := (fin_iff b).1 h
  rw [hd]; rfl
theorem nan_eq (b c : Nat) (h : (FloatKind.f64.decode b).isNaN = true) : (FloatKind.f64.format.order b c == some .eq) = false := by
  unfold Ieee.Format.order
  unfold FloatKind.decode at h
  cases hd : FloatKind.f64.format.read b with
  | number s m e => rw [hd] at h; cases h
  | infinity s => rw [hd] at h; cases h
  | nan s t => rfl
/-- What the machine hands back for an operation without an answer is no number. -/
theorem nan_cut (x y t : Nat) : (FloatKind.f64.decode (Question.cut (.nanBits .f64 x y) t)).isNaN = true := by
  show (Ieee.Format.read Ieee.double ((t % 2) * 2 ^ 63 + 0x7ff0000000000000 + 1 + (t / 2) % (2 ^ 52 - 1))).isNaN = true
  have hw : Ieee.double.signWeight = 2 ^ 63 := by decide
  have hb : Ieee.double.binade = 2 ^ 52 := by decide
  have hi : Ieee.double.infRung = 0x7ff0000000000000 := by decide
  unfold Ieee.Format.read
  rw [hw, hb, hi]
  have h1 : (t / 2) % (2 ^ 52 - 1) < 2 ^ 52 - 1 := Nat.mod_lt _ (by decide)
  have h2 : t % 2 < 2 := Nat.mod_lt _ (by decide)
  generalize (t / 2) % (2 ^ 52 - 1) = q at *
  generalize t % 2 = p at *
  have e : (p * 2 ^ 63 + 0x7ff0000000000000 + 1 + q) % 2 ^ 63 = 0x7ff0000000000000 + 1 + q := by omega
  rw [e]
  dsimp only
  rw [if_neg (by omega), if_neg (by omega), if_neg (by omega)]
  rfl
end Go.Proofs.YtkibdomfiodilaaDoor.flt
