/-
  Proved: the contracts of the functions that make the decoder's sets: each set has just the bytes that it is said to have.
  Conditions: none.
-/
import Derived.Test.YtlcbcgillekphaaDoorSeu
namespace Go.Proofs.YtlcbcgillekphaaDoor.set
open Go.RowKit Mem rw
set_option linter.unusedVariables false

/-- What a maker of a set leaves. -/
def Mk (w : World) (f : Nat → Bool) (R : Nat) (w' : World) : Prop := w.heap.size ≤ R ∧ SetAt w' R f ∧ Below w.heap.size w w'
theorem Mk.congr {w w' : World} {f g : Nat → Bool} {R : Nat} (h : Mk w f R w') (e : ∀ j : Fin 256, f j.val = g j.val) : Mk w g R w' := ⟨h.1, h.2.1.congr (fun j hj => e ⟨j, hj⟩), h.2.2⟩
theorem Mk.then {w w' w'' : World} {f g : Nat → Bool} {R S : Nat} (h : Mk w f R w') (k : Mk w' g S w'') : Mk w g S w'' ∧ SetAt w'' R f ∧ Below w.heap.size w w'' := by
  have hs := h.2.2.size
  have hR := Rw.lt h.2.1
  have hb := h.2.2.trans (k.2.2.mono hs)
  exact ⟨⟨Nat.le_trans hs k.1, k.2.1, hb⟩, h.2.1.below k.2.2 hR, hb⟩
/-- A set's bytes by their numbers. -/
def inN (k : Nat) (i : Nat) : Bool := dm.inS k (UInt8.ofNat i)
theorem inN_byte (k : Nat) (c : UInt8) : inN k c.toNat = dm.inS k c := by simp [inN]
def SetIs (k : Nat) (w : World) (e : Ending) (w' : World) : Prop := ∃ R, e = .returned (.pointer (some ⟨R, 0, none⟩)) ∧ Mk w (inN k) R w'

theorem mk_fieldSeparatorSpace (w : World) : Calls Tryd.prog 38 #[] w (SetIs 0 w) := by
  go_enter Tryd.func38, Tryd.ntmps38
  go_wp2_with fail
  refine (new63 ⟨#[32]⟩ (by decide) _).mono ?_
  rintro e w1 ⟨rfl, h, b⟩
  have k0 : Mk w (hasB [32]) w.heap.size w1 := ⟨Nat.le_refl _, h, b⟩
  clear h b
  have T0 := Lib.hid k0
  have S0 := Lib.hid k0.2.1
  clear k0
  clear S0
  go_wp2
  go_ret
  exact ⟨_, rfl, T0.out.congr (by decide +kernel)⟩

theorem mk_whitespace (w : World) : Calls Tryd.prog 39 #[] w (SetIs 1 w) := by
  go_enter Tryd.func39, Tryd.ntmps39
  go_wp2_with fail
  refine (mk_fieldSeparatorSpace _).mono ?_
  rintro e w1 ⟨R0, rfl, h⟩
  have k0 : Mk w (inN 0) R0 w1 := h
  clear h
  have T0 := Lib.hid k0
  have S0 := Lib.hid k0.2.1
  clear k0
  go_wp2_with fail
  refine (new63 ⟨#[13, 10]⟩ (by decide) _).mono ?_
  rintro e w2 ⟨rfl, h, b⟩
  have k1 : Mk w1 (hasB [13, 10]) w1.heap.size w2 := ⟨Nat.le_refl _, h, b⟩
  clear h b
  have s0 := Lib.hid (S0.out.below k1.2.2 (Rw.lt S0.out))
  clear S0
  have S0 := s0
  clear s0
  have T1 := Lib.hid (T0.out.then k1).1
  clear T0
  have S1 := Lib.hid k1.2.1
  clear k1
  go_wp2_with fail
  refine (union64 R0 w1.heap.size _ _ _ S0.out S1.out).mono ?_
  rintro e w3 ⟨rfl, h, b⟩
  have k2 : Mk w2 (fun i => (inN 0) i || (hasB [13, 10]) i) w2.heap.size w3 := ⟨Nat.le_refl _, h, b⟩
  clear h b
  have s0 := Lib.hid (S0.out.below k2.2.2 (Rw.lt S0.out))
  clear S0
  have S0 := s0
  clear s0
  have s1 := Lib.hid (S1.out.below k2.2.2 (Rw.lt S1.out))
  clear S1
  have S1 := s1
  clear s1
  have T2 := Lib.hid (T1.out.then k2).1
  clear T1
  have S2 := Lib.hid k2.2.1
  clear k2
  clear S0
  clear S1
  clear S2
  go_wp2
  go_ret
  exact ⟨_, rfl, T2.out.congr (by decide +kernel)⟩

theorem mk_nonPrintable (w : World) : Calls Tryd.prog 41 #[] w (SetIs 3 w) := by
  go_enter Tryd.func41, Tryd.ntmps41
  go_wp2_with fail
  refine (range66 _).mono ?_
  rintro e w1 ⟨rfl, h, b⟩
  have k0 : Mk w (fun i => decide (i < 32)) w.heap.size w1 := ⟨Nat.le_refl _, h, b⟩
  clear h b
  have T0 := Lib.hid k0
  have S0 := Lib.hid k0.2.1
  clear k0
  go_wp2_with fail
  refine (new63 ⟨#[127]⟩ (by decide) _).mono ?_
  rintro e w2 ⟨rfl, h, b⟩
  have k1 : Mk w1 (hasB [127]) w1.heap.size w2 := ⟨Nat.le_refl _, h, b⟩
  clear h b
  have s0 := Lib.hid (S0.out.below k1.2.2 (Rw.lt S0.out))
  clear S0
  have S0 := s0
  clear s0
  have T1 := Lib.hid (T0.out.then k1).1
  clear T0
  have S1 := Lib.hid k1.2.1
  clear k1
  go_wp2_with fail
  refine (union64 w.heap.size w1.heap.size _ _ _ S0.out S1.out).mono ?_
  rintro e w3 ⟨rfl, h, b⟩
  have k2 : Mk w2 (fun i => (fun i => decide (i < 32)) i || (hasB [127]) i) w2.heap.size w3 := ⟨Nat.le_refl _, h, b⟩
  clear h b
  have s0 := Lib.hid (S0.out.below k2.2.2 (Rw.lt S0.out))
  clear S0
  have S0 := s0
  clear s0
  have s1 := Lib.hid (S1.out.below k2.2.2 (Rw.lt S1.out))
  clear S1
  have S1 := s1
  clear s1
  have T2 := Lib.hid (T1.out.then k2).1
  clear T1
  have S2 := Lib.hid k2.2.1
  clear k2
  clear S0
  clear S1
  clear S2
  go_wp2
  go_ret
  exact ⟨_, rfl, T2.out.congr (by decide +kernel)⟩

theorem mk_eolChars (w : World) : Calls Tryd.prog 42 #[] w (SetIs 4 w) := by
  go_enter Tryd.func42, Tryd.ntmps42
  go_wp2_with fail
  refine (new63 ⟨#[13, 10]⟩ (by decide) _).mono ?_
  rintro e w1 ⟨rfl, h, b⟩
  have k0 : Mk w (hasB [13, 10]) w.heap.size w1 := ⟨Nat.le_refl _, h, b⟩
  clear h b
  have T0 := Lib.hid k0
  have S0 := Lib.hid k0.2.1
  clear k0
  clear S0
  go_wp2
  go_ret
  exact ⟨_, rfl, T0.out.congr (by decide +kernel)⟩

theorem mk_tagKeyChars (w : World) : Calls Tryd.prog 40 #[] w (SetIs 2 w) := by
  go_enter Tryd.func40, Tryd.ntmps40
  go_wp2_with fail
  refine (new63 ⟨#[44, 61]⟩ (by decide) _).mono ?_
  rintro e w1 ⟨rfl, h, b⟩
  have k0 : Mk w (hasB [44, 61]) w.heap.size w1 := ⟨Nat.le_refl _, h, b⟩
  clear h b
  have T0 := Lib.hid k0
  have S0 := Lib.hid k0.2.1
  clear k0
  go_wp2_with fail
  refine (mk_whitespace _).mono ?_
  rintro e w2 ⟨R1, rfl, h⟩
  have k1 : Mk w1 (inN 1) R1 w2 := h
  clear h
  have s0 := Lib.hid (S0.out.below k1.2.2 (Rw.lt S0.out))
  clear S0
  have S0 := s0
  clear s0
  have T1 := Lib.hid (T0.out.then k1).1
  clear T0
  have S1 := Lib.hid k1.2.1
  clear k1
  go_wp2_with fail
  refine (union64 w.heap.size R1 _ _ _ S0.out S1.out).mono ?_
  rintro e w3 ⟨rfl, h, b⟩
  have k2 : Mk w2 (fun i => (hasB [44, 61]) i || (inN 1) i) w2.heap.size w3 := ⟨Nat.le_refl _, h, b⟩
  clear h b
  have s0 := Lib.hid (S0.out.below k2.2.2 (Rw.lt S0.out))
  clear S0
  have S0 := s0
  clear s0
  have s1 := Lib.hid (S1.out.below k2.2.2 (Rw.lt S1.out))
  clear S1
  have S1 := s1
  clear s1
  have T2 := Lib.hid (T1.out.then k2).1
  clear T1
  have S2 := Lib.hid k2.2.1
  clear k2
  clear S0
  clear S1
  go_wp2_with fail
  refine (mk_nonPrintable _).mono ?_
  rintro e w4 ⟨R3, rfl, h⟩
  have k3 : Mk w3 (inN 3) R3 w4 := h
  clear h
  have s2 := Lib.hid (S2.out.below k3.2.2 (Rw.lt S2.out))
  clear S2
  have S2 := s2
  clear s2
  have T3 := Lib.hid (T2.out.then k3).1
  clear T2
  have S3 := Lib.hid k3.2.1
  clear k3
  go_wp2_with fail
  refine (union64 w2.heap.size R3 _ _ _ S2.out S3.out).mono ?_
  rintro e w5 ⟨rfl, h, b⟩
  have k4 : Mk w4 (fun i => (fun i => (hasB [44, 61]) i || (inN 1) i) i || (inN 3) i) w4.heap.size w5 := ⟨Nat.le_refl _, h, b⟩
  clear h b
  have s2 := Lib.hid (S2.out.below k4.2.2 (Rw.lt S2.out))
  clear S2
  have S2 := s2
  clear s2
  have s3 := Lib.hid (S3.out.below k4.2.2 (Rw.lt S3.out))
  clear S3
  have S3 := s3
  clear s3
  have T4 := Lib.hid (T3.out.then k4).1
  clear T3
  have S4 := Lib.hid k4.2.1
  clear k4
  clear S2
  clear S3
  go_wp2_with fail
  refine (invert65 w4.heap.size _ _ S4.out).mono ?_
  rintro e w6 ⟨rfl, h, b⟩
  have k5 : Mk w5 (fun i => !(fun i => (fun i => (hasB [44, 61]) i || (inN 1) i) i || (inN 3) i) i) w5.heap.size w6 := ⟨Nat.le_refl _, h, b⟩
  clear h b
  have s4 := Lib.hid (S4.out.below k5.2.2 (Rw.lt S4.out))
  clear S4
  have S4 := s4
  clear s4
  have T5 := Lib.hid (T4.out.then k5).1
  clear T4
  have S5 := Lib.hid k5.2.1
  clear k5
  clear S4
  clear S5
  go_wp2
  go_ret
  exact ⟨_, rfl, T5.out.congr (by decide +kernel)⟩

theorem mk_measurementChars (w : World) : Calls Tryd.prog 43 #[] w (SetIs 5 w) := by
  go_enter Tryd.func43, Tryd.ntmps43
  go_wp2_with fail
  refine (new63 ⟨#[44, 32]⟩ (by decide) _).mono ?_
  rintro e w1 ⟨rfl, h, b⟩
  have k0 : Mk w (hasB [44, 32]) w.heap.size w1 := ⟨Nat.le_refl _, h, b⟩
  clear h b
  have T0 := Lib.hid k0
  have S0 := Lib.hid k0.2.1
  clear k0
  go_wp2_with fail
  refine (mk_nonPrintable _).mono ?_
  rintro e w2 ⟨R1, rfl, h⟩
  have k1 : Mk w1 (inN 3) R1 w2 := h
  clear h
  have s0 := Lib.hid (S0.out.below k1.2.2 (Rw.lt S0.out))
  clear S0
  have S0 := s0
  clear s0
  have T1 := Lib.hid (T0.out.then k1).1
  clear T0
  have S1 := Lib.hid k1.2.1
  clear k1
  go_wp2_with fail
  refine (union64 w.heap.size R1 _ _ _ S0.out S1.out).mono ?_
  rintro e w3 ⟨rfl, h, b⟩
  have k2 : Mk w2 (fun i => (hasB [44, 32]) i || (inN 3) i) w2.heap.size w3 := ⟨Nat.le_refl _, h, b⟩
  clear h b
  have s0 := Lib.hid (S0.out.below k2.2.2 (Rw.lt S0.out))
  clear S0
  have S0 := s0
  clear s0
  have s1 := Lib.hid (S1.out.below k2.2.2 (Rw.lt S1.out))
  clear S1
  have S1 := s1
  clear s1
  have T2 := Lib.hid (T1.out.then k2).1
  clear T1
  have S2 := Lib.hid k2.2.1
  clear k2
  clear S0
  clear S1
  go_wp2_with fail
  refine (invert65 w2.heap.size _ _ S2.out).mono ?_
  rintro e w4 ⟨rfl, h, b⟩
  have k3 : Mk w3 (fun i => !(fun i => (hasB [44, 32]) i || (inN 3) i) i) w3.heap.size w4 := ⟨Nat.le_refl _, h, b⟩
  clear h b
  have s2 := Lib.hid (S2.out.below k3.2.2 (Rw.lt S2.out))
  clear S2
  have S2 := s2
  clear s2
  have T3 := Lib.hid (T2.out.then k3).1
  clear T2
  have S3 := Lib.hid k3.2.1
  clear k3
  clear S2
  clear S3
  go_wp2
  go_ret
  exact ⟨_, rfl, T3.out.congr (by decide +kernel)⟩

theorem mk_tagValChars (w : World) : Calls Tryd.prog 44 #[] w (SetIs 6 w) := by
  go_enter Tryd.func44, Tryd.ntmps44
  go_wp2_with fail
  refine (new63 ⟨#[44, 61]⟩ (by decide) _).mono ?_
  rintro e w1 ⟨rfl, h, b⟩
  have k0 : Mk w (hasB [44, 61]) w.heap.size w1 := ⟨Nat.le_refl _, h, b⟩
  clear h b
  have T0 := Lib.hid k0
  have S0 := Lib.hid k0.2.1
  clear k0
  go_wp2_with fail
  refine (mk_whitespace _).mono ?_
  rintro e w2 ⟨R1, rfl, h⟩
  have k1 : Mk w1 (inN 1) R1 w2 := h
  clear h
  have s0 := Lib.hid (S0.out.below k1.2.2 (Rw.lt S0.out))
  clear S0
  have S0 := s0
  clear s0
  have T1 := Lib.hid (T0.out.then k1).1
  clear T0
  have S1 := Lib.hid k1.2.1
  clear k1
  go_wp2_with fail
  refine (union64 w.heap.size R1 _ _ _ S0.out S1.out).mono ?_
  rintro e w3 ⟨rfl, h, b⟩
  have k2 : Mk w2 (fun i => (hasB [44, 61]) i || (inN 1) i) w2.heap.size w3 := ⟨Nat.le_refl _, h, b⟩
  clear h b
  have s0 := Lib.hid (S0.out.below k2.2.2 (Rw.lt S0.out))
  clear S0
  have S0 := s0
  clear s0
  have s1 := Lib.hid (S1.out.below k2.2.2 (Rw.lt S1.out))
  clear S1
  have S1 := s1
  clear s1
  have T2 := Lib.hid (T1.out.then k2).1
  clear T1
  have S2 := Lib.hid k2.2.1
  clear k2
  clear S0
  clear S1
  go_wp2_with fail
  refine (mk_nonPrintable _).mono ?_
  rintro e w4 ⟨R3, rfl, h⟩
  have k3 : Mk w3 (inN 3) R3 w4 := h
  clear h
  have s2 := Lib.hid (S2.out.below k3.2.2 (Rw.lt S2.out))
  clear S2
  have S2 := s2
  clear s2
  have T3 := Lib.hid (T2.out.then k3).1
  clear T2
  have S3 := Lib.hid k3.2.1
  clear k3
  go_wp2_with fail
  refine (union64 w2.heap.size R3 _ _ _ S2.out S3.out).mono ?_
  rintro e w5 ⟨rfl, h, b⟩
  have k4 : Mk w4 (fun i => (fun i => (hasB [44, 61]) i || (inN 1) i) i || (inN 3) i) w4.heap.size w5 := ⟨Nat.le_refl _, h, b⟩
  clear h b
  have s2 := Lib.hid (S2.out.below k4.2.2 (Rw.lt S2.out))
  clear S2
  have S2 := s2
  clear s2
  have s3 := Lib.hid (S3.out.below k4.2.2 (Rw.lt S3.out))
  clear S3
  have S3 := s3
  clear s3
  have T4 := Lib.hid (T3.out.then k4).1
  clear T3
  have S4 := Lib.hid k4.2.1
  clear k4
  clear S2
  clear S3
  go_wp2_with fail
  refine (invert65 w4.heap.size _ _ S4.out).mono ?_
  rintro e w6 ⟨rfl, h, b⟩
  have k5 : Mk w5 (fun i => !(fun i => (fun i => (hasB [44, 61]) i || (inN 1) i) i || (inN 3) i) i) w5.heap.size w6 := ⟨Nat.le_refl _, h, b⟩
  clear h b
  have s4 := Lib.hid (S4.out.below k5.2.2 (Rw.lt S4.out))
  clear S4
  have S4 := s4
  clear s4
  have T5 := Lib.hid (T4.out.then k5).1
  clear T4
  have S5 := Lib.hid k5.2.1
  clear k5
  clear S4
  clear S5
  go_wp2
  go_ret
  exact ⟨_, rfl, T5.out.congr (by decide +kernel)⟩

theorem mk_fieldKeyChars (w : World) : Calls Tryd.prog 45 #[] w (SetIs 7 w) := by
  go_enter Tryd.func45, Tryd.ntmps45
  go_wp2_with fail
  refine (mk_tagKeyChars _).mono ?_
  rintro e w1 ⟨R0, rfl, h⟩
  have k0 : Mk w (inN 2) R0 w1 := h
  clear h
  have T0 := Lib.hid k0
  have S0 := Lib.hid k0.2.1
  clear k0
  clear S0
  go_wp2
  go_ret
  exact ⟨_, rfl, T0.out.congr (by decide +kernel)⟩

theorem mk_fieldStringValChars (w : World) : Calls Tryd.prog 46 #[] w (SetIs 8 w) := by
  go_enter Tryd.func46, Tryd.ntmps46
  go_wp2_with fail
  refine (new63 ⟨#[34]⟩ (by decide) _).mono ?_
  rintro e w1 ⟨rfl, h, b⟩
  have k0 : Mk w (hasB [34]) w.heap.size w1 := ⟨Nat.le_refl _, h, b⟩
  clear h b
  have T0 := Lib.hid k0
  have S0 := Lib.hid k0.2.1
  clear k0
  go_wp2_with fail
  refine (invert65 w.heap.size _ _ S0.out).mono ?_
  rintro e w2 ⟨rfl, h, b⟩
  have k1 : Mk w1 (fun i => !(hasB [34]) i) w1.heap.size w2 := ⟨Nat.le_refl _, h, b⟩
  clear h b
  have s0 := Lib.hid (S0.out.below k1.2.2 (Rw.lt S0.out))
  clear S0
  have S0 := s0
  clear s0
  have T1 := Lib.hid (T0.out.then k1).1
  clear T0
  have S1 := Lib.hid k1.2.1
  clear k1
  clear S0
  clear S1
  go_wp2
  go_ret
  exact ⟨_, rfl, T1.out.congr (by decide +kernel)⟩

theorem mk_fieldValChars (w : World) : Calls Tryd.prog 47 #[] w (SetIs 9 w) := by
  go_enter Tryd.func47, Tryd.ntmps47
  go_wp2_with fail
  refine (new63 ⟨#[44]⟩ (by decide) _).mono ?_
  rintro e w1 ⟨rfl, h, b⟩
  have k0 : Mk w (hasB [44]) w.heap.size w1 := ⟨Nat.le_refl _, h, b⟩
  clear h b
  have T0 := Lib.hid k0
  have S0 := Lib.hid k0.2.1
  clear k0
  go_wp2_with fail
  refine (mk_whitespace _).mono ?_
  rintro e w2 ⟨R1, rfl, h⟩
  have k1 : Mk w1 (inN 1) R1 w2 := h
  clear h
  have s0 := Lib.hid (S0.out.below k1.2.2 (Rw.lt S0.out))
  clear S0
  have S0 := s0
  clear s0
  have T1 := Lib.hid (T0.out.then k1).1
  clear T0
  have S1 := Lib.hid k1.2.1
  clear k1
  go_wp2_with fail
  refine (union64 w.heap.size R1 _ _ _ S0.out S1.out).mono ?_
  rintro e w3 ⟨rfl, h, b⟩
  have k2 : Mk w2 (fun i => (hasB [44]) i || (inN 1) i) w2.heap.size w3 := ⟨Nat.le_refl _, h, b⟩
  clear h b
  have s0 := Lib.hid (S0.out.below k2.2.2 (Rw.lt S0.out))
  clear S0
  have S0 := s0
  clear s0
  have s1 := Lib.hid (S1.out.below k2.2.2 (Rw.lt S1.out))
  clear S1
  have S1 := s1
  clear s1
  have T2 := Lib.hid (T1.out.then k2).1
  clear T1
  have S2 := Lib.hid k2.2.1
  clear k2
  clear S0
  clear S1
  go_wp2_with fail
  refine (invert65 w2.heap.size _ _ S2.out).mono ?_
  rintro e w4 ⟨rfl, h, b⟩
  have k3 : Mk w3 (fun i => !(fun i => (hasB [44]) i || (inN 1) i) i) w3.heap.size w4 := ⟨Nat.le_refl _, h, b⟩
  clear h b
  have s2 := Lib.hid (S2.out.below k3.2.2 (Rw.lt S2.out))
  clear S2
  have S2 := s2
  clear s2
  have T3 := Lib.hid (T2.out.then k3).1
  clear T2
  have S3 := Lib.hid k3.2.1
  clear k3
  clear S2
  clear S3
  go_wp2
  go_ret
  exact ⟨_, rfl, T3.out.congr (by decide +kernel)⟩

theorem mk_timeChars (w : World) : Calls Tryd.prog 48 #[] w (SetIs 10 w) := by
  go_enter Tryd.func48, Tryd.ntmps48
  go_wp2_with fail
  refine (new63 ⟨#[45, 48, 49, 50, 51, 52, 53, 54, 55, 56, 57]⟩ (by decide) _).mono ?_
  rintro e w1 ⟨rfl, h, b⟩
  have k0 : Mk w (hasB [45, 48, 49, 50, 51, 52, 53, 54, 55, 56, 57]) w.heap.size w1 := ⟨Nat.le_refl _, h, b⟩
  clear h b
  have T0 := Lib.hid k0
  have S0 := Lib.hid k0.2.1
  clear k0
  clear S0
  go_wp2
  go_ret
  exact ⟨_, rfl, T0.out.congr (by decide +kernel)⟩

theorem mk_commentChars (w : World) : Calls Tryd.prog 49 #[] w (SetIs 11 w) := by
  go_enter Tryd.func49, Tryd.ntmps49
  go_wp2_with fail
  refine (mk_nonPrintable _).mono ?_
  rintro e w1 ⟨R0, rfl, h⟩
  have k0 : Mk w (inN 3) R0 w1 := h
  clear h
  have T0 := Lib.hid k0
  have S0 := Lib.hid k0.2.1
  clear k0
  go_wp2_with fail
  refine (invert65 R0 _ _ S0.out).mono ?_
  rintro e w2 ⟨rfl, h, b⟩
  have k1 : Mk w1 (fun i => !(inN 3) i) w1.heap.size w2 := ⟨Nat.le_refl _, h, b⟩
  clear h b
  have s0 := Lib.hid (S0.out.below k1.2.2 (Rw.lt S0.out))
  clear S0
  have S0 := s0
  clear s0
  have T1 := Lib.hid (T0.out.then k1).1
  clear T0
  have S1 := Lib.hid k1.2.1
  clear k1
  clear S0
  go_wp2_with fail
  refine (mk_eolChars _).mono ?_
  rintro e w3 ⟨R2, rfl, h⟩
  have k2 : Mk w2 (inN 4) R2 w3 := h
  clear h
  have s1 := Lib.hid (S1.out.below k2.2.2 (Rw.lt S1.out))
  clear S1
  have S1 := s1
  clear s1
  have T2 := Lib.hid (T1.out.then k2).1
  clear T1
  have S2 := Lib.hid k2.2.1
  clear k2
  go_wp2_with fail
  refine (without67 w1.heap.size R2 _ _ _ S1.out S2.out).mono ?_
  rintro e w4 ⟨R3, rfl, h⟩
  have k3 : Mk w3 (fun i => (fun i => !(inN 3) i) i && !(inN 4) i) R3 w4 := h.out
  clear h
  have s1 := Lib.hid (S1.out.below k3.2.2 (Rw.lt S1.out))
  clear S1
  have S1 := s1
  clear s1
  have s2 := Lib.hid (S2.out.below k3.2.2 (Rw.lt S2.out))
  clear S2
  have S2 := s2
  clear s2
  have T3 := Lib.hid (T2.out.then k3).1
  clear T2
  have S3 := Lib.hid k3.2.1
  clear k3
  clear S1
  clear S2
  clear S3
  go_wp2
  go_ret
  exact ⟨_, rfl, T3.out.congr (by decide +kernel)⟩

theorem mk_notEOL (w : World) : Calls Tryd.prog 50 #[] w (SetIs 12 w) := by
  go_enter Tryd.func50, Tryd.ntmps50
  go_wp2_with fail
  refine (mk_eolChars _).mono ?_
  rintro e w1 ⟨R0, rfl, h⟩
  have k0 : Mk w (inN 4) R0 w1 := h
  clear h
  have T0 := Lib.hid k0
  have S0 := Lib.hid k0.2.1
  clear k0
  go_wp2_with fail
  refine (invert65 R0 _ _ S0.out).mono ?_
  rintro e w2 ⟨rfl, h, b⟩
  have k1 : Mk w1 (fun i => !(inN 4) i) w1.heap.size w2 := ⟨Nat.le_refl _, h, b⟩
  clear h b
  have s0 := Lib.hid (S0.out.below k1.2.2 (Rw.lt S0.out))
  clear S0
  have S0 := s0
  clear s0
  have T1 := Lib.hid (T0.out.then k1).1
  clear T0
  have S1 := Lib.hid k1.2.1
  clear k1
  clear S0
  clear S1
  go_wp2
  go_ret
  exact ⟨_, rfl, T1.out.congr (by decide +kernel)⟩

theorem mk_notNewline (w : World) : Calls Tryd.prog 51 #[] w (SetIs 13 w) := by
  go_enter Tryd.func51, Tryd.ntmps51
  go_wp2_with fail
  refine (new63 ⟨#[10]⟩ (by decide) _).mono ?_
  rintro e w1 ⟨rfl, h, b⟩
  have k0 : Mk w (hasB [10]) w.heap.size w1 := ⟨Nat.le_refl _, h, b⟩
  clear h b
  have T0 := Lib.hid k0
  have S0 := Lib.hid k0.2.1
  clear k0
  go_wp2_with fail
  refine (invert65 w.heap.size _ _ S0.out).mono ?_
  rintro e w2 ⟨rfl, h, b⟩
  have k1 : Mk w1 (fun i => !(hasB [10]) i) w1.heap.size w2 := ⟨Nat.le_refl _, h, b⟩
  clear h b
  have s0 := Lib.hid (S0.out.below k1.2.2 (Rw.lt S0.out))
  clear S0
  have S0 := s0
  clear s0
  have T1 := Lib.hid (T0.out.then k1).1
  clear T0
  have S1 := Lib.hid k1.2.1
  clear k1
  clear S0
  clear S1
  go_wp2
  go_ret
  exact ⟨_, rfl, T1.out.congr (by decide +kernel)⟩
end Go.Proofs.YtlcbcgillekphaaDoor.set
