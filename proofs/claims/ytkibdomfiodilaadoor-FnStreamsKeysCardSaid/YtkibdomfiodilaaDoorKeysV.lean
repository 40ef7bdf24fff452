/-
  Proved: laws.FnStreamsKeys returns true at every slice of strings, in every world.
  Conditions: the slice's elements are there, the sizes are those that strings can have.
-/
import Derived.Test.YtkibdomfiodilaaDoorKeysW
namespace Go.Proofs.YtkibdomfiodilaaDoor.strs
open Go.RowKit Mem
set_option linter.unusedVariables false

theorem keysWalk (a : Option Addr) (cap : Nat) (ss : List ByteArray) (w : World) (h : Str w a ss) (hn : ss.length ≤ 9223372036854775807) (hz : ∀ s ∈ ss, s.size ≤ 9223372036854775807) (hcap : ss.length ≤ cap) (hnone : a = none → ss.length = 0 ∧ cap = 0) :
    Calls Tryd.prog 6 #[.slice a ss.length cap] w fun e w' => e = .returned (.bool true) ∧ Below w.heap.size w w' := by
  have HF := Lib.hid (fits16 a cap ss w h hn hz)
  cases hfit : (decide (ss.length ≤ 2147483647) && ss.all fun s => decide (s.size ≤ 2147483647))
  · rw [hfit] at HF
    clear h hz hfit hnone
    go_enter Tryd.func6, Tryd.ntmps6
    go_wp2_with fail
    refine HF.out.mono ?_
    rintro e w1 ⟨rfl, rfl⟩
    go_wp2
    go_ret
    exact ⟨rfl, Below.refl _ _⟩
  rw [hfit] at HF
  simp only [Bool.and_eq_true, decide_eq_true_eq, List.all_eq_true] at hfit
  have HR := Lib.hid (right17 a cap ss w h hfit.1 hfit.2)
  cases hr : (decide (ss.length ≤ 50) && ss.all fun s => decide (s.size ≤ 200))
  · rw [hr] at HR
    clear h hz hfit hnone hr
    go_enter Tryd.func6, Tryd.ntmps6
    go_wp2_with fail
    refine HF.out.mono ?_
    rintro e w1 ⟨rfl, rfl⟩
    go_wp2_with fail
    refine HR.out.mono ?_
    rintro e w1 ⟨rfl, rfl⟩
    go_wp2
    go_ret
    exact ⟨rfl, Below.refl _ _⟩
  rw [hr] at HR
  simp only [Bool.and_eq_true, decide_eq_true_eq, List.all_eq_true] at hr
  have HA := Lib.hid (ascii18 a cap ss w h hr.1 hr.2)
  cases ha : (ss.all fun s => s.data.toList.all fun b => decide (b.toNat ≤ 127))
  · rw [ha] at HA
    clear h hz hfit hnone hr ha
    go_enter Tryd.func6, Tryd.ntmps6
    go_wp2_with fail
    refine HF.out.mono ?_
    rintro e w1 ⟨rfl, rfl⟩
    go_wp2_with fail
    refine HR.out.mono ?_
    rintro e w1 ⟨rfl, rfl⟩
    go_wp2_with fail
    refine HA.out.mono ?_
    rintro e w1 ⟨rfl, rfl⟩
    go_wp2
    go_ret
    exact ⟨rfl, Below.refl _ _⟩
  rw [ha] at HA
  simp only [decide_eq_true_eq, List.all_eq_true] at ha
  have hasc : ∀ s ∈ ss, ∀ (q : Nat) (b : UInt8), s.data.toList[q]? = some b → b.toNat < 128 := fun s hs q b hb => by
    have := ha s hs b (List.mem_of_getElem? hb)
    omega
  have HI := Lib.hid (impl19 a cap ss w h hr.1 hr.2 hasc hcap hnone)
  have hs21 := fun w' (hb : Below w.heap.size w w') => spec21 a cap ss w' (h.but hb) hr.1 hr.2 hcap
  have HS := Lib.hid hs21
  have hkl : (keysOf ss).length ≤ 1000 := by
    have : ∀ l : List ByteArray, (keysOf l).length ≤ l.length := by
      intro l
      induction l with
      | nil => exact Nat.le_refl _
      | cons s r ih =>
        unfold keysOf
        split
        · simp; omega
        · simp; omega
    have := this ss
    omega
  clear h hz hfit hnone ha hs21 hasc
  generalize keysOf ss = ks at *
  go_enter Tryd.func6, Tryd.ntmps6
  go_wp2_with fail
  refine HF.out.mono ?_
  rintro e w1 ⟨rfl, rfl⟩
  go_wp2_with fail
  refine HR.out.mono ?_
  rintro e w1 ⟨rfl, rfl⟩
  go_wp2_with fail
  refine HA.out.mono ?_
  rintro e w1 ⟨rfl, rfl⟩
  go_wp2_with fail
  refine HI.out.mono ?_
  rintro e w1 ⟨a1, c1, rfl, s1, b1⟩
  have S1 := Lib.hid s1
  have B1 := Lib.hid b1
  clear s1 b1
  go_wp2_with fail
  refine (HS.out _ B1.out).mono ?_
  rintro e w2 ⟨a2, c2, rfl, hc2, s2, b2, -⟩
  have S2 := Lib.hid s2
  have B2 := Lib.hid b2
  clear s2 b2
  go_wp2_with fail
  refine (same20 a1 a2 c1 c2 ks w2 (S1.out.but B2.out) S2.out hkl).mono ?_
  rintro e w3 ⟨rfl, rfl⟩
  go_wp2
  go_ret
  exact ⟨rfl, B1.out.trans (B2.out.mono B1.out.size)⟩
end Go.Proofs.YtkibdomfiodilaaDoor.strs
