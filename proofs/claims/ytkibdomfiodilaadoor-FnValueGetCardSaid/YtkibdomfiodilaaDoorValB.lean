/-
  Proved: the contracts of lineprotocol's Value: its kind, its accessors, which panic of another kind.
  Conditions: each contract's own.
-/
import Derived.Test.YtkibdomfiodilaaDoorValA
import Derived.Outline
namespace Go.Proofs.YtkibdomfiodilaaDoor.val
open Go.RowKit Mem
set_option linter.unusedVariables false

/-- A panic with a text. -/
def PanicStr (e : Ending) : Prop := ∃ s : ByteArray, e = .panicked [{ v := .iface 9 (.string s), recovered := false }]
def kindN (q : Int) : Int := if q = 0 then 1 else q

theorem kind62 (n q : Int) (b : Value) (hb : b.oneCell' = true) (w : World) :
    Calls Tryd.prog 62 #[.agg #[.int .u64 n, b, .int .u8 q]] w fun e w' => e = .returned (.int .u8 (kindN q)) ∧ Hid (But [] w w') := by
  have hB : Hid (∀ o, But [] w (w.alloc o)) := Lib.hid fun o => (But.refl [] w).alloc o
  by_cases h : q = 0
  · subst h
    rw [show kindN 0 = 1 from rfl]
    go_enter Tryd.func62, Tryd.ntmps62
    go_wp2
    go_ret
    exact ⟨rfl, Lib.hid (hB.out _)⟩
  · rw [show kindN q = q from if_neg h]
    go_enter Tryd.func62, Tryd.ntmps62
    go_wp2
    go_ret
    exact ⟨rfl, Lib.hid (hB.out _)⟩
theorem must_ok (n q k : Int) (b : Value) (hb : b.oneCell' = true) (hk : kindN q = k) (w : World) :
    Calls Tryd.prog 50 #[.agg #[.int .u64 n, b, .int .u8 q], .int .u8 k] w fun e w' => e = .returned (.tuple #[]) ∧ Hid (But [] w w') := by
  have hB : Hid (∀ o, But [] w (w.alloc o)) := Lib.hid fun o => (But.refl [] w).alloc o
  have HK := Lib.hid hk
  clear hk
  go_enter Tryd.func50, Tryd.ntmps50
  go_wp2_with fail
  refine (kind62 n q b hb _).mono ?_
  rw [HK.out]
  rintro e w1 ⟨rfl, b1⟩
  go_wp2
  go_end0
  exact ⟨rfl, Lib.hid ((hB.out _).trans b1.out)⟩
theorem must_bad (n q k : Int) (b : Value) (hb : b.oneCell' = true) (hk : kindN q ≠ k) (w : World) :
    Calls Tryd.prog 50 #[.agg #[.int .u64 n, b, .int .u8 q], .int .u8 k] w fun e w' => PanicStr e ∧ Hid (But [] w w') := by
  have hB : Hid (∀ o, But [] w (w.alloc o)) := Lib.hid fun o => (But.refl [] w).alloc o
  obtain ⟨z, hz⟩ : ∃ z, kindN q = z := ⟨_, rfl⟩
  have hkz : (z == k) = false := by rw [← hz]; simpa using hk
  have HZ := Lib.hid hz
  clear hz hk
  go_enter Tryd.func50, Tryd.ntmps50
  go_wp2_with fail
  refine (kind62 n q b hb _).mono ?_
  rw [HZ.out]
  rintro e w1 ⟨rfl, b1⟩
  go_wp2
  exact ⟨rfl, ⟨_, rfl⟩, Lib.hid ((hB.out _).trans b1.out)⟩

theorem run_bits (x : Nat) (w : World) : (callFunc 49 #[.float .f64 x]).run Tryd.prog w = .ok (.value (.int .u64 x)) w := by
  have := run_callFunc_extern (P := Tryd.prog) (f := 49) (e := Extern.MathFloatBits.float64bits) Tryd.func49 (by kernel_rfl) (by kernel_rfl) (by kernel_rfl) (by kernel_rfl) #[.float .f64 x] w
  rw [this]
  rfl
theorem run_frombits (x : Nat) (w : World) : (callFunc 51 #[.int .u64 x]).run Tryd.prog w = .ok (.value (.float .f64 x)) w := by
  have := run_callFunc_extern (P := Tryd.prog) (f := 51) (e := Extern.MathFloatBits.float64frombits) Tryd.func51 (by kernel_rfl) (by kernel_rfl) (by kernel_rfl) (by kernel_rfl) #[.int .u64 x] w
  rw [this]
  rfl
end Go.Proofs.YtkibdomfiodilaaDoor.val
