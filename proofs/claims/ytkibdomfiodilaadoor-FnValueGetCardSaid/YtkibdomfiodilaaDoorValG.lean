/-
  Proved: the contracts of laws.lKinds of one value, laws.lSameValue of one value with itself.
  Conditions: each contract's own.
-/
import Derived.Test.YtkibdomfiodilaaDoorValF
namespace Go.Proofs.YtkibdomfiodilaaDoor.val
open Go.RowKit Mem rw
set_option linter.unusedVariables false
attribute [local go_sem] store_float

set_option maxRecDepth 100000 in
theorem same11 (k : Int) (s : ByteArray) (n u : Int) (f : Nat) (b : Bool) (hfin : flt.fin f = true) (w : World) :
    Calls Tryd.prog 11 #[vA k s n u f b, vA k s n u f b] w fun e w' => Quiet true w e w' := by
  have hB : Hid (∀ o o', But [] w ((w.alloc o).alloc o')) := Lib.hid fun o o' => ((But.refl [] w).alloc o).alloc o'
  have hq : (FloatKind.f64.format.order f f == some .eq) = true := by rw [flt.eq_self, flt.fin_notNaN f hfin]; rfl
  obtain ⟨r, hr, hn⟩ := flt.quo_fin f hfin
  have hq2 : (FloatKind.f64.format.order r r == some .eq) = true := by rw [flt.eq_self, hn]; rfl
  have hquo := fun t w0 => run_float_arith (P := Tryd.prog) w0 .quo t .f64 4607182418800017408 f r hr
  clear hfin hr hn
  go_enter Tryd.func11, Tryd.ntmps11
  go_wp2
  go_ret
  refine ⟨?_, Lib.hid (hB.out _ _)⟩
  first | rfl | simp

def kindsB (k : Int) (s : ByteArray) : Bool := decide (0 ≤ k) && decide (k ≤ 255) && decide (s.size ≤ 800)
set_option maxRecDepth 100000 in
theorem kinds8 (A : Nat) (k : Int) (s : ByteArray) (n u : Int) (f : Nat) (b : Bool) (w : World) (h : Rw w A [.int .i64 k, .string s, .int .i64 n, .int .u64 u, .float .f64 f, .bool b] 25) :
    Calls Tryd.prog 8 #[.slice (some ⟨A, 0, none⟩) 1 1] w fun e w' => Quiet (kindsB k s) w e w' := by
  have H := Lib.hid h
  obtain ⟨r, hr⟩ : ∃ r, kindsB k s = r := ⟨_, rfl⟩
  rw [hr]
  have HR := Lib.hid hr
  clear hr h
  go_enter Tryd.func8, Tryd.ntmps8
  go_wp2_with fail
  go_loopw [7] (fun i wr => ∃ j : Nat, j ≤ 1 ∧ i = .int .i64 j ∧ Hid (But [] w wr ∧ (j = 1 → r = true))) (fun i _ => 1 - (intOf i).toNat)
  case atStart => exact ⟨0, by omega, rfl, Lib.hid ⟨But.refl _ _, by omega⟩⟩
  case round =>
    obtain ⟨j, hj, rfl, hI⟩ := hrel
    by_cases h1 : j = 1
    · subst h1
      have HRT := Lib.hid (hI.out.2 rfl)
      go_wp2
      go_ret
      exact ⟨by rw [HRT.out]; rfl, Lib.hid hI.out.1⟩
    · obtain rfl : j = 0 := by omega
      have hr1 := Rw.but H.out hI.out.1 (by simp)
      have c0 := Rw.cell hr1 0
      have c1 := Rw.cell hr1 1
      have c2 := Rw.cell hr1 2
      have c3 := Rw.cell hr1 3
      have c4 := Rw.cell hr1 4
      have c5 := Rw.cell hr1 5
      simp only [List.getElem?_cons_zero, List.getElem?_cons_succ] at c0 c1 c2 c3 c4 c5
      have hB : Hid (∀ o, But [] w (wr.alloc o)) := Lib.hid fun o => hI.out.1.alloc o
      clear hr1
      by_cases k0 : k < 0
      · obtain rfl : r = false := by rw [← HR.out, kindsB]; simp; omega
        go_wp2
        go_ret
        exact ⟨rfl, Lib.hid (hB.out _)⟩
      by_cases k2 : 255 < k
      · obtain rfl : r = false := by rw [← HR.out, kindsB]; simp; omega
        go_wp2
        go_ret
        exact ⟨rfl, Lib.hid (hB.out _)⟩
      by_cases k3 : (800 : Int) < (s.size : Int)
      · obtain rfl : r = false := by rw [← HR.out, kindsB]; simp; omega
        go_wp2
        go_ret
        exact ⟨rfl, Lib.hid (hB.out _)⟩
      have hrt : r = true := by rw [← HR.out, kindsB]; simp; omega
      have HRT := Lib.hid hrt
      clear hrt
      go_wp2
      go_roundw
      case rel => exact ⟨1, by omega, by go_num, Lib.hid ⟨hB.out _, fun _ => HRT.out⟩⟩
      case measure => simp [intOf]
end Go.Proofs.YtkibdomfiodilaaDoor.val
