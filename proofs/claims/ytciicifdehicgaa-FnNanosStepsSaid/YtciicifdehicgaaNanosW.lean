/-
  Proved: the contracts of impl.Nanos, impl.PrecisionNanos and of what they call, at the precisions 0 to 3.
  Conditions: a time's product with the precision's nanoseconds fits in 64 bits (the contracts '.._yes'), or does not (those '.._no').
-/
import Derived.Test.YtciicifdehicgaaRows
import Derived.WalkKit
import Derived.ProofKit
import Derived.Outline
import Derived.WalkLawsBesides
import Derived.WalkSpells
import Derived.Defers
import Derived.Recover
import Derived.Lib.Hide
namespace Go.Proofs.Ytciicifdehicgaa.nanos
open Go.RowKit
set_option linter.unusedVariables false

theorem dur0 (w : World) : Calls Try.prog 17 #[.int .u8 0] w fun e w' => e = .returned (.int .i64 1) ∧ w = w' := by
  go_enter Try.func17, Try.ntmps17
  go_wp2
  go_ret
  exact ⟨rfl, rfl⟩
theorem dur1 (w : World) : Calls Try.prog 17 #[.int .u8 1] w fun e w' => e = .returned (.int .i64 1000) ∧ w = w' := by
  go_enter Try.func17, Try.ntmps17
  go_wp2
  go_ret
  exact ⟨rfl, rfl⟩
theorem dur2 (w : World) : Calls Try.prog 17 #[.int .u8 2] w fun e w' => e = .returned (.int .i64 1000000) ∧ w = w' := by
  go_enter Try.func17, Try.ntmps17
  go_wp2
  go_ret
  exact ⟨rfl, rfl⟩
theorem dur3 (w : World) : Calls Try.prog 17 #[.int .u8 3] w fun e w' => e = .returned (.int .i64 1000000000) ∧ w = w' := by
  go_enter Try.func17, Try.ntmps17
  go_wp2
  go_ret
  exact ⟨rfl, rfl⟩

theorem catch14 (p q : Addr) (w : World) :
    CallsD Try.prog 14 #[.pointer (some p), .pointer (some q)] .returning w fun e u' w' => e = .returned (.tuple #[]) ∧ u' = .returning ∧ w = w' := by
  refine callsD_of_wpS Try.func14 rfl fun c₀ cs hu => ?_
  apply wpS_seq
  apply wpS_region
  simp [wpOpsS, go_sem, recoverD, hu, Try.ntmps14, Exit.thenS]
  refine wpS_cond (t := false) (by simp [Act.eval, Array.replicate]) ?_
  simp only [Bool.false_eq_true, if_false]
  refine wpS_of_wp (wp_skip ?_)
  cases c₀
  simp_all [bodyPostS, results, Try.results14]
theorem catch16 (p q : Addr) (w : World) :
    CallsD Try.prog 16 #[.pointer (some p), .pointer (some q)] .returning w fun e u' w' => e = .returned (.tuple #[]) ∧ u' = .returning ∧ w = w' := by
  refine callsD_of_wpS Try.func16 rfl fun c₀ cs hu => ?_
  apply wpS_seq
  apply wpS_region
  simp [wpOpsS, go_sem, recoverD, hu, Try.ntmps16, Exit.thenS]
  refine wpS_cond (t := false) (by simp [Act.eval, Array.replicate]) ?_
  simp only [Bool.false_eq_true, if_false]
  refine wpS_of_wp (wp_skip ?_)
  cases c₀
  simp_all [bodyPostS, results, Try.results16]

theorem as0 (x : Int) (w : World) : Calls Try.prog 23 #[.int .u8 0, .int .i64 x] w fun e w' => e = .returned (.tuple #[.int .i64 x, .bool true]) ∧ w = w' := by
  go_enter Try.func23, Try.ntmps23
  go_wp2
  go_ret2
  exact ⟨rfl, rfl⟩


/-- The product with a precision's nanoseconds fits in 64 bits. -/
def Fits (x d : Int) : Prop := -9223372036854775808 ≤ x * d ∧ x * d ≤ 9223372036854775807

theorem fits1 (x : Int) (h : Fits x 1000) : wrap64 (x * 1000) = x * 1000 ∧ (wrap64 (Int.tdiv (wrap64 (x * 1000)) 1000) == x) = true := by
  unfold Fits at h
  have e : wrap64 (x * 1000) = x * 1000 := by unfold wrap64; omega
  refine ⟨e, ?_⟩
  rw [e, Int.mul_tdiv_cancel _ (by omega)]
  have : wrap64 x = x := by unfold wrap64; omega
  simp [this]
theorem over1 (x : Int) (hx : -9223372036854775808 ≤ x ∧ x ≤ 9223372036854775807) (h : ¬ Fits x 1000) : (wrap64 (Int.tdiv (wrap64 (x * 1000)) 1000) == x) = false := by
  unfold Fits at h
  rw [beq_eq_false_iff_ne]
  intro hc
  have a1 : -9223372036854775808 ≤ wrap64 (x * 1000) ∧ wrap64 (x * 1000) ≤ 9223372036854775807 := by unfold wrap64; omega
  have a2 : ∃ j, wrap64 (x * 1000) = x * 1000 + j * 18446744073709551616 := ⟨- ((x * 1000 + 9223372036854775808) / 18446744073709551616), by unfold wrap64; omega⟩
  obtain ⟨j, a2⟩ := a2
  generalize wrap64 (x * 1000) = c at *
  have e := Int.mul_tdiv_add_tmod c 1000
  have l := Int.tmod_lt_of_pos c (show (0 : Int) < 1000 by decide)
  have l' := Int.lt_tmod_of_pos c (show (0 : Int) < 1000 by decide)
  have b : -9223372036854775808 ≤ Int.tdiv c 1000 ∧ Int.tdiv c 1000 ≤ 9223372036854775807 := by omega
  have w : wrap64 (Int.tdiv c 1000) = Int.tdiv c 1000 := by unfold wrap64; omega
  rw [w] at hc
  omega

theorem as_yes1 (x : Int) (hf : Fits x 1000) (w : World) : Calls Try.prog 23 #[.int .u8 1, .int .i64 x] w fun e w' => e = .returned (.tuple #[.int .i64 (x * 1000), .bool true]) ∧ w = w' := by
  obtain ⟨h1, h2⟩ := fits1 x hf
  clear hf
  have H := Lib.hid h1
  clear h1
  go_enter Try.func23, Try.ntmps23
  go_wp2_with (go_at_call 17; refine (dur1 _).mono ?_; rintro e w' ⟨rfl, rfl⟩)
  go_ret2
  exact ⟨by rw [H.out]; rfl, rfl⟩
theorem as_no1 (x : Int) (hx : -9223372036854775808 ≤ x ∧ x ≤ 9223372036854775807) (hf : ¬ Fits x 1000) (w : World) : Calls Try.prog 23 #[.int .u8 1, .int .i64 x] w fun e w' => e = .returned (.tuple #[.int .i64 0, .bool false]) ∧ w = w' := by
  have h2 := over1 x hx hf
  clear hf hx
  go_enter Try.func23, Try.ntmps23
  go_wp2_with (go_at_call 17; refine (dur1 _).mono ?_; rintro e w' ⟨rfl, rfl⟩)
  go_ret2
  exact ⟨rfl, rfl⟩

theorem fits2 (x : Int) (h : Fits x 1000000) : wrap64 (x * 1000000) = x * 1000000 ∧ (wrap64 (Int.tdiv (wrap64 (x * 1000000)) 1000000) == x) = true := by
  unfold Fits at h
  have e : wrap64 (x * 1000000) = x * 1000000 := by unfold wrap64; omega
  refine ⟨e, ?_⟩
  rw [e, Int.mul_tdiv_cancel _ (by omega)]
  have : wrap64 x = x := by unfold wrap64; omega
  simp [this]
theorem over2 (x : Int) (hx : -9223372036854775808 ≤ x ∧ x ≤ 9223372036854775807) (h : ¬ Fits x 1000000) : (wrap64 (Int.tdiv (wrap64 (x * 1000000)) 1000000) == x) = false := by
  unfold Fits at h
  rw [beq_eq_false_iff_ne]
  intro hc
  have a1 : -9223372036854775808 ≤ wrap64 (x * 1000000) ∧ wrap64 (x * 1000000) ≤ 9223372036854775807 := by unfold wrap64; omega
  have a2 : ∃ j, wrap64 (x * 1000000) = x * 1000000 + j * 18446744073709551616 := ⟨- ((x * 1000000 + 9223372036854775808) / 18446744073709551616), by unfold wrap64; omega⟩
  obtain ⟨j, a2⟩ := a2
  generalize wrap64 (x * 1000000) = c at *
  have e := Int.mul_tdiv_add_tmod c 1000000
  have l := Int.tmod_lt_of_pos c (show (0 : Int) < 1000000 by decide)
  have l' := Int.lt_tmod_of_pos c (show (0 : Int) < 1000000 by decide)
  have b : -9223372036854775808 ≤ Int.tdiv c 1000000 ∧ Int.tdiv c 1000000 ≤ 9223372036854775807 := by omega
  have w : wrap64 (Int.tdiv c 1000000) = Int.tdiv c 1000000 := by unfold wrap64; omega
  rw [w] at hc
  omega

theorem as_yes2 (x : Int) (hf : Fits x 1000000) (w : World) : Calls Try.prog 23 #[.int .u8 2, .int .i64 x] w fun e w' => e = .returned (.tuple #[.int .i64 (x * 1000000), .bool true]) ∧ w = w' := by
  obtain ⟨h1, h2⟩ := fits2 x hf
  clear hf
  have H := Lib.hid h1
  clear h1
  go_enter Try.func23, Try.ntmps23
  go_wp2_with (go_at_call 17; refine (dur2 _).mono ?_; rintro e w' ⟨rfl, rfl⟩)
  go_ret2
  exact ⟨by rw [H.out]; rfl, rfl⟩
theorem as_no2 (x : Int) (hx : -9223372036854775808 ≤ x ∧ x ≤ 9223372036854775807) (hf : ¬ Fits x 1000000) (w : World) : Calls Try.prog 23 #[.int .u8 2, .int .i64 x] w fun e w' => e = .returned (.tuple #[.int .i64 0, .bool false]) ∧ w = w' := by
  have h2 := over2 x hx hf
  clear hf hx
  go_enter Try.func23, Try.ntmps23
  go_wp2_with (go_at_call 17; refine (dur2 _).mono ?_; rintro e w' ⟨rfl, rfl⟩)
  go_ret2
  exact ⟨rfl, rfl⟩

theorem fits3 (x : Int) (h : Fits x 1000000000) : wrap64 (x * 1000000000) = x * 1000000000 ∧ (wrap64 (Int.tdiv (wrap64 (x * 1000000000)) 1000000000) == x) = true := by
  unfold Fits at h
  have e : wrap64 (x * 1000000000) = x * 1000000000 := by unfold wrap64; omega
  refine ⟨e, ?_⟩
  rw [e, Int.mul_tdiv_cancel _ (by omega)]
  have : wrap64 x = x := by unfold wrap64; omega
  simp [this]
theorem over3 (x : Int) (hx : -9223372036854775808 ≤ x ∧ x ≤ 9223372036854775807) (h : ¬ Fits x 1000000000) : (wrap64 (Int.tdiv (wrap64 (x * 1000000000)) 1000000000) == x) = false := by
  unfold Fits at h
  rw [beq_eq_false_iff_ne]
  intro hc
  have a1 : -9223372036854775808 ≤ wrap64 (x * 1000000000) ∧ wrap64 (x * 1000000000) ≤ 9223372036854775807 := by unfold wrap64; omega
  have a2 : ∃ j, wrap64 (x * 1000000000) = x * 1000000000 + j * 18446744073709551616 := ⟨- ((x * 1000000000 + 9223372036854775808) / 18446744073709551616), by unfold wrap64; omega⟩
  obtain ⟨j, a2⟩ := a2
  generalize wrap64 (x * 1000000000) = c at *
  have e := Int.mul_tdiv_add_tmod c 1000000000
  have l := Int.tmod_lt_of_pos c (show (0 : Int) < 1000000000 by decide)
  have l' := Int.lt_tmod_of_pos c (show (0 : Int) < 1000000000 by decide)
  have b : -9223372036854775808 ≤ Int.tdiv c 1000000000 ∧ Int.tdiv c 1000000000 ≤ 9223372036854775807 := by omega
  have w : wrap64 (Int.tdiv c 1000000000) = Int.tdiv c 1000000000 := by unfold wrap64; omega
  rw [w] at hc
  omega

theorem as_yes3 (x : Int) (hf : Fits x 1000000000) (w : World) : Calls Try.prog 23 #[.int .u8 3, .int .i64 x] w fun e w' => e = .returned (.tuple #[.int .i64 (x * 1000000000), .bool true]) ∧ w = w' := by
  obtain ⟨h1, h2⟩ := fits3 x hf
  clear hf
  have H := Lib.hid h1
  clear h1
  go_enter Try.func23, Try.ntmps23
  go_wp2_with (go_at_call 17; refine (dur3 _).mono ?_; rintro e w' ⟨rfl, rfl⟩)
  go_ret2
  exact ⟨by rw [H.out]; rfl, rfl⟩
theorem as_no3 (x : Int) (hx : -9223372036854775808 ≤ x ∧ x ≤ 9223372036854775807) (hf : ¬ Fits x 1000000000) (w : World) : Calls Try.prog 23 #[.int .u8 3, .int .i64 x] w fun e w' => e = .returned (.tuple #[.int .i64 0, .bool false]) ∧ w = w' := by
  have h2 := over3 x hx hf
  clear hf hx
  go_enter Try.func23, Try.ntmps23
  go_wp2_with (go_at_call 17; refine (dur3 _).mono ?_; rintro e w' ⟨rfl, rfl⟩)
  go_ret2
  exact ⟨rfl, rfl⟩

theorem nanos0 (x : Int) (w : World) : Calls Try.prog 7 #[.int .i64 0, .int .i64 x] w fun e w' => e = .returned (.tuple #[.int .i64 x, .bool true]) ∧ Grown w w' := by
  have hmf : ∀ (fn : Fn) (first cap : Array Value) (w : World), (Instr.makeFunc fn first cap).run Try.prog w = .ok (.func fn first cap) w := fun _ _ _ _ => rfl
  go_enter_defers Try.func7, Try.ntmps7
  go_wp2_with (first | (go_at_call 15; go_in) | (go_at_call 23; refine (as0 _ _).mono ?_; rintro e w' ⟨rfl, rfl⟩))
  refine leaves_cons (f := 14) (args := #[.pointer (some ⟨w.heap.size, 0, none⟩), .pointer (some ⟨w.heap.size + 1, 0, none⟩)]) (by simp) (by simp [go_sem]) ?_
  refine (catch14 _ _ _).mono ?_
  rintro e u' w'' ⟨rfl, rfl, rfl⟩
  simp [Leaves, settle, results, Try.results7, go_sem]
  exact ((Grown.refl _).alloc _ _).alloc _ _

theorem nanos_yes1 (x : Int) (hf : Fits x 1000) (w : World) : Calls Try.prog 7 #[.int .i64 1, .int .i64 x] w fun e w' => e = .returned (.tuple #[.int .i64 (x * 1000), .bool true]) ∧ Grown w w' := by
  have hmf : ∀ (fn : Fn) (first cap : Array Value) (w : World), (Instr.makeFunc fn first cap).run Try.prog w = .ok (.func fn first cap) w := fun _ _ _ _ => rfl
  go_enter_defers Try.func7, Try.ntmps7
  go_wp2_with (first | (go_at_call 15; go_in) | (go_at_call 23; refine (as_yes1 _ hf _).mono ?_; rintro e w' ⟨rfl, rfl⟩))
  refine leaves_cons (f := 14) (args := #[.pointer (some ⟨w.heap.size, 0, none⟩), .pointer (some ⟨w.heap.size + 1, 0, none⟩)]) (by simp) (by simp [go_sem]) ?_
  refine (catch14 _ _ _).mono ?_
  rintro e u' w'' ⟨rfl, rfl, rfl⟩
  simp [Leaves, settle, results, Try.results7, go_sem]
  exact ((Grown.refl _).alloc _ _).alloc _ _

theorem nanos_no1 (x : Int) (hx : -9223372036854775808 ≤ x ∧ x ≤ 9223372036854775807) (hf : ¬ Fits x 1000) (w : World) : Calls Try.prog 7 #[.int .i64 1, .int .i64 x] w fun e w' => e = .returned (.tuple #[.int .i64 0, .bool false]) ∧ Grown w w' := by
  have hmf : ∀ (fn : Fn) (first cap : Array Value) (w : World), (Instr.makeFunc fn first cap).run Try.prog w = .ok (.func fn first cap) w := fun _ _ _ _ => rfl
  go_enter_defers Try.func7, Try.ntmps7
  go_wp2_with (first | (go_at_call 15; go_in) | (go_at_call 23; refine (as_no1 _ hx hf _).mono ?_; rintro e w' ⟨rfl, rfl⟩))
  refine leaves_cons (f := 14) (args := #[.pointer (some ⟨w.heap.size, 0, none⟩), .pointer (some ⟨w.heap.size + 1, 0, none⟩)]) (by simp) (by simp [go_sem]) ?_
  refine (catch14 _ _ _).mono ?_
  rintro e u' w'' ⟨rfl, rfl, rfl⟩
  simp [Leaves, settle, results, Try.results7, go_sem]
  exact ((Grown.refl _).alloc _ _).alloc _ _

theorem nanos_yes2 (x : Int) (hf : Fits x 1000000) (w : World) : Calls Try.prog 7 #[.int .i64 2, .int .i64 x] w fun e w' => e = .returned (.tuple #[.int .i64 (x * 1000000), .bool true]) ∧ Grown w w' := by
  have hmf : ∀ (fn : Fn) (first cap : Array Value) (w : World), (Instr.makeFunc fn first cap).run Try.prog w = .ok (.func fn first cap) w := fun _ _ _ _ => rfl
  go_enter_defers Try.func7, Try.ntmps7
  go_wp2_with (first | (go_at_call 15; go_in) | (go_at_call 23; refine (as_yes2 _ hf _).mono ?_; rintro e w' ⟨rfl, rfl⟩))
  refine leaves_cons (f := 14) (args := #[.pointer (some ⟨w.heap.size, 0, none⟩), .pointer (some ⟨w.heap.size + 1, 0, none⟩)]) (by simp) (by simp [go_sem]) ?_
  refine (catch14 _ _ _).mono ?_
  rintro e u' w'' ⟨rfl, rfl, rfl⟩
  simp [Leaves, settle, results, Try.results7, go_sem]
  exact ((Grown.refl _).alloc _ _).alloc _ _

theorem nanos_no2 (x : Int) (hx : -9223372036854775808 ≤ x ∧ x ≤ 9223372036854775807) (hf : ¬ Fits x 1000000) (w : World) : Calls Try.prog 7 #[.int .i64 2, .int .i64 x] w fun e w' => e = .returned (.tuple #[.int .i64 0, .bool false]) ∧ Grown w w' := by
  have hmf : ∀ (fn : Fn) (first cap : Array Value) (w : World), (Instr.makeFunc fn first cap).run Try.prog w = .ok (.func fn first cap) w := fun _ _ _ _ => rfl
  go_enter_defers Try.func7, Try.ntmps7
  go_wp2_with (first | (go_at_call 15; go_in) | (go_at_call 23; refine (as_no2 _ hx hf _).mono ?_; rintro e w' ⟨rfl, rfl⟩))
  refine leaves_cons (f := 14) (args := #[.pointer (some ⟨w.heap.size, 0, none⟩), .pointer (some ⟨w.heap.size + 1, 0, none⟩)]) (by simp) (by simp [go_sem]) ?_
  refine (catch14 _ _ _).mono ?_
  rintro e u' w'' ⟨rfl, rfl, rfl⟩
  simp [Leaves, settle, results, Try.results7, go_sem]
  exact ((Grown.refl _).alloc _ _).alloc _ _

theorem nanos_yes3 (x : Int) (hf : Fits x 1000000000) (w : World) : Calls Try.prog 7 #[.int .i64 3, .int .i64 x] w fun e w' => e = .returned (.tuple #[.int .i64 (x * 1000000000), .bool true]) ∧ Grown w w' := by
  have hmf : ∀ (fn : Fn) (first cap : Array Value) (w : World), (Instr.makeFunc fn first cap).run Try.prog w = .ok (.func fn first cap) w := fun _ _ _ _ => rfl
  go_enter_defers Try.func7, Try.ntmps7
  go_wp2_with (first | (go_at_call 15; go_in) | (go_at_call 23; refine (as_yes3 _ hf _).mono ?_; rintro e w' ⟨rfl, rfl⟩))
  refine leaves_cons (f := 14) (args := #[.pointer (some ⟨w.heap.size, 0, none⟩), .pointer (some ⟨w.heap.size + 1, 0, none⟩)]) (by simp) (by simp [go_sem]) ?_
  refine (catch14 _ _ _).mono ?_
  rintro e u' w'' ⟨rfl, rfl, rfl⟩
  simp [Leaves, settle, results, Try.results7, go_sem]
  exact ((Grown.refl _).alloc _ _).alloc _ _

theorem nanos_no3 (x : Int) (hx : -9223372036854775808 ≤ x ∧ x ≤ 9223372036854775807) (hf : ¬ Fits x 1000000000) (w : World) : Calls Try.prog 7 #[.int .i64 3, .int .i64 x] w fun e w' => e = .returned (.tuple #[.int .i64 0, .bool false]) ∧ Grown w w' := by
  have hmf : ∀ (fn : Fn) (first cap : Array Value) (w : World), (Instr.makeFunc fn first cap).run Try.prog w = .ok (.func fn first cap) w := fun _ _ _ _ => rfl
  go_enter_defers Try.func7, Try.ntmps7
  go_wp2_with (first | (go_at_call 15; go_in) | (go_at_call 23; refine (as_no3 _ hx hf _).mono ?_; rintro e w' ⟨rfl, rfl⟩))
  refine leaves_cons (f := 14) (args := #[.pointer (some ⟨w.heap.size, 0, none⟩), .pointer (some ⟨w.heap.size + 1, 0, none⟩)]) (by simp) (by simp [go_sem]) ?_
  refine (catch14 _ _ _).mono ?_
  rintro e u' w'' ⟨rfl, rfl, rfl⟩
  simp [Leaves, settle, results, Try.results7, go_sem]
  exact ((Grown.refl _).alloc _ _).alloc _ _

theorem prec0 (w : World) : Calls Try.prog 8 #[.int .i64 0] w fun e w' => e = .returned (.tuple #[.int .i64 1, .bool true]) ∧ Grown w w' := by
  have hmf : ∀ (fn : Fn) (first cap : Array Value) (w : World), (Instr.makeFunc fn first cap).run Try.prog w = .ok (.func fn first cap) w := fun _ _ _ _ => rfl
  go_enter_defers Try.func8, Try.ntmps8
  go_wp2_with (go_at_call 17; refine (dur0 _).mono ?_; rintro e w' ⟨rfl, rfl⟩)
  refine leaves_cons (f := 16) (args := #[.pointer (some ⟨w.heap.size, 0, none⟩), .pointer (some ⟨w.heap.size + 1, 0, none⟩)]) (by simp) (by simp [go_sem]) ?_
  refine (catch16 _ _ _).mono ?_
  rintro e u' w'' ⟨rfl, rfl, rfl⟩
  simp [Leaves, settle, results, Try.results8, go_sem]
  exact ((Grown.refl _).alloc _ _).alloc _ _

theorem prec1 (w : World) : Calls Try.prog 8 #[.int .i64 1] w fun e w' => e = .returned (.tuple #[.int .i64 1000, .bool true]) ∧ Grown w w' := by
  have hmf : ∀ (fn : Fn) (first cap : Array Value) (w : World), (Instr.makeFunc fn first cap).run Try.prog w = .ok (.func fn first cap) w := fun _ _ _ _ => rfl
  go_enter_defers Try.func8, Try.ntmps8
  go_wp2_with (go_at_call 17; refine (dur1 _).mono ?_; rintro e w' ⟨rfl, rfl⟩)
  refine leaves_cons (f := 16) (args := #[.pointer (some ⟨w.heap.size, 0, none⟩), .pointer (some ⟨w.heap.size + 1, 0, none⟩)]) (by simp) (by simp [go_sem]) ?_
  refine (catch16 _ _ _).mono ?_
  rintro e u' w'' ⟨rfl, rfl, rfl⟩
  simp [Leaves, settle, results, Try.results8, go_sem]
  exact ((Grown.refl _).alloc _ _).alloc _ _

theorem prec2 (w : World) : Calls Try.prog 8 #[.int .i64 2] w fun e w' => e = .returned (.tuple #[.int .i64 1000000, .bool true]) ∧ Grown w w' := by
  have hmf : ∀ (fn : Fn) (first cap : Array Value) (w : World), (Instr.makeFunc fn first cap).run Try.prog w = .ok (.func fn first cap) w := fun _ _ _ _ => rfl
  go_enter_defers Try.func8, Try.ntmps8
  go_wp2_with (go_at_call 17; refine (dur2 _).mono ?_; rintro e w' ⟨rfl, rfl⟩)
  refine leaves_cons (f := 16) (args := #[.pointer (some ⟨w.heap.size, 0, none⟩), .pointer (some ⟨w.heap.size + 1, 0, none⟩)]) (by simp) (by simp [go_sem]) ?_
  refine (catch16 _ _ _).mono ?_
  rintro e u' w'' ⟨rfl, rfl, rfl⟩
  simp [Leaves, settle, results, Try.results8, go_sem]
  exact ((Grown.refl _).alloc _ _).alloc _ _

theorem prec3 (w : World) : Calls Try.prog 8 #[.int .i64 3] w fun e w' => e = .returned (.tuple #[.int .i64 1000000000, .bool true]) ∧ Grown w w' := by
  have hmf : ∀ (fn : Fn) (first cap : Array Value) (w : World), (Instr.makeFunc fn first cap).run Try.prog w = .ok (.func fn first cap) w := fun _ _ _ _ => rfl
  go_enter_defers Try.func8, Try.ntmps8
  go_wp2_with (go_at_call 17; refine (dur3 _).mono ?_; rintro e w' ⟨rfl, rfl⟩)
  refine leaves_cons (f := 16) (args := #[.pointer (some ⟨w.heap.size, 0, none⟩), .pointer (some ⟨w.heap.size + 1, 0, none⟩)]) (by simp) (by simp [go_sem]) ?_
  refine (catch16 _ _ _).mono ?_
  rintro e u' w'' ⟨rfl, rfl, rfl⟩
  simp [Leaves, settle, results, Try.results8, go_sem]
  exact ((Grown.refl _).alloc _ _).alloc _ _
end Go.Proofs.Ytciicifdehicgaa.nanos
