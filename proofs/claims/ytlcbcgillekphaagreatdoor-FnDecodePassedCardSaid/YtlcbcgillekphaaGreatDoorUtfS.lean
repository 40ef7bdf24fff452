/-
  Proved: the contract of spec.UTF8: it is the plain table's validity.
  Conditions: a text of at most 2147483647 bytes.
-/
import Derived.Test.YtlcbcgillekphaaGreatDoorGa
import Derived.WalkLawsBesides
import Derived.Lib.Hide
import Derived.IntWalk
namespace Go.Proofs.YtlcbcgillekphaaGreatDoor.utf
open Go.RowKit Mem
set_option linter.unusedVariables false

theorem drop_at (s : ByteArray) (j : Nat) (h : j < s.size) : s.data.toList.drop j = s[j] :: s.data.toList.drop (j + 1) := by
  have : j < s.data.toList.length := by simpa using h
  rw [List.drop_eq_getElem_cons this]; rfl
theorem drop_past (s : ByteArray) (j : Nat) (h : s.size ≤ j) : s.data.toList.drop j = [] := List.drop_eq_nil_of_le (by simpa using h)
theorem tail_step (n lo hi : Nat) (s : ByteArray) (j : Nat) (h : j < s.size) : tailOk (n + 1) lo hi (s.data.toList.drop j) = (inr lo hi s[j] && tailOk n 128 191 (s.data.toList.drop (j + 1))) := by
  rw [drop_at s j h]; rfl
theorem tail_past (n lo hi : Nat) (s : ByteArray) (j : Nat) (h : s.size ≤ j) : tailOk (n + 1) lo hi (s.data.toList.drop j) = false := by
  rw [drop_past s j h]; rfl

set_option maxRecDepth 100000 in
set_option maxHeartbeats 4000000 in
theorem utf25 (s : ByteArray) (hs : s.size ≤ 2147483647) (w : World) :
    Calls Tryz.prog 88 #[.string s] w fun e w' => e = .returned (.bool (V s.data.toList)) ∧ w = w' := by
  obtain ⟨r, hr⟩ : ∃ r, V s.data.toList = r := ⟨_, rfl⟩
  rw [hr]
  have HR := Lib.hid hr
  clear hr
  go_enter Tryz.func88, Tryz.ntmps88
  go_wp2_with fail
  go_loop [3] (fun i => ∃ j : Nat, j ≤ s.size ∧ i = .int .i64 j ∧ Hid (V (s.data.toList.drop j) = r)) (fun i => s.size - (intOf i).toNat)
  case atStart => exact ⟨0, Nat.zero_le _, rfl, HR⟩
  case round =>
    obtain ⟨j, hj, rfl, hv⟩ := hrel
    by_cases hlt : j < s.size
    · obtain ⟨x, hx⟩ : ∃ x, s[j] = x := ⟨_, rfl⟩
      have HV : Hid (V (x :: s.data.toList.drop (j + 1)) = r) := by
        have h1 := hv.out
        rw [drop_at s j hlt, hx] at h1
        exact Lib.hid h1
      clear hv
      have hjl : (j : Int) < (s.size : Int) := by omega
      have hxb := x.toNat_lt
      by_cases c0 : x.toNat < 128
      · have T1 : Hid (V (x :: s.data.toList.drop (j + 1)) = (tailOk 0 128 191 (s.data.toList.drop (j + 1)) && V (s.data.toList.drop (j + 1 + 0)))) := by
          have e : lead x.toNat = some (0, 128, 191) := by
            unfold lead
            repeat' split
            all_goals first | rfl | (exfalso; omega)
          rw [V_some _ _ e, List.drop_drop]
          exact Lib.hid rfl
        have z0 : (x.toNat : Int) < 128 := by omega
        go_wp2_with fail
        go_loop [6, 7, 8] (fun lo hi k => ∃ K lo2 hi2 : Nat, 1 ≤ K ∧ K ≤ 0 + 1 ∧ j + K ≤ s.size ∧ k = .int .i64 K ∧ lo = .int .u8 lo2 ∧ hi = .int .u8 hi2 ∧ Hid (tailOk (0 + 1 - K) lo2 hi2 (s.data.toList.drop (j + K)) = tailOk 0 128 191 (s.data.toList.drop (j + 1)))) (fun _ _ k => 0 + 1 - (intOf k).toNat)
        case atStart => exact ⟨1, 128, 191, by omega, by omega, by omega, rfl, rfl, rfl, Lib.hid rfl⟩
        case round =>
          obtain ⟨K, lo2, hi2, hK1, hK2, hK3, rfl, rfl, rfl, ht⟩ := hrel
          by_cases hK : K ≤ 0
          · exfalso; omega
          · obtain rfl : K = 0 + 1 := by omega
            have hv2 : Hid (V (s.data.toList.drop (j + (0 + 1))) = r) := by
              have h1 := ht.out
              rw [Nat.sub_self] at h1
              have h2 := HV.out
              rw [T1.out, ← h1, tailOk, Bool.true_and] at h2
              rw [show j + (0 + 1) = j + 1 + 0 by omega]
              exact Lib.hid h2
            go_wp2
            go_round
            case rel => exact ⟨j + (0 + 1), by omega, by go_num, hv2⟩
            case measure => simp [intOf]; omega
      by_cases c1 : 194 ≤ x.toNat ∧ x.toNat ≤ 223
      · have T1 : Hid (V (x :: s.data.toList.drop (j + 1)) = (tailOk 1 128 191 (s.data.toList.drop (j + 1)) && V (s.data.toList.drop (j + 1 + 1)))) := by
          have e : lead x.toNat = some (1, 128, 191) := by
            unfold lead
            repeat' split
            all_goals first | rfl | (exfalso; omega)
          rw [V_some _ _ e, List.drop_drop]
          exact Lib.hid rfl
        have z0 : ¬ ((x.toNat : Int) < 128) := by omega
        have z1 : 194 ≤ (x.toNat : Int) := by omega
        have z2 : (x.toNat : Int) ≤ 223 := by omega
        go_wp2_with fail
        go_loop [6, 7, 8] (fun lo hi k => ∃ K lo2 hi2 : Nat, 1 ≤ K ∧ K ≤ 1 + 1 ∧ j + K ≤ s.size ∧ k = .int .i64 K ∧ lo = .int .u8 lo2 ∧ hi = .int .u8 hi2 ∧ Hid (tailOk (1 + 1 - K) lo2 hi2 (s.data.toList.drop (j + K)) = tailOk 1 128 191 (s.data.toList.drop (j + 1)))) (fun _ _ k => 1 + 1 - (intOf k).toNat)
        case atStart => exact ⟨1, 128, 191, by omega, by omega, by omega, rfl, rfl, rfl, Lib.hid rfl⟩
        case round =>
          obtain ⟨K, lo2, hi2, hK1, hK2, hK3, rfl, rfl, rfl, ht⟩ := hrel
          by_cases hK : K ≤ 1
          · have q0 : (K : Int) ≤ 1 := by omega
            have q1 : IntKind.i64.wrap ((j : Int) + (K : Int)) = (j : Int) + (K : Int) := IntWalk.i64_in _ (by omega)
            have q2 : (0 : Int) ≤ (j : Int) + (K : Int) := by omega
            have q3 : ((j : Int) + (K : Int)).toNat = j + K := by omega
            by_cases hin : j + K < s.size
            · obtain ⟨y, hy⟩ : ∃ y, s[j + K] = y := ⟨_, rfl⟩
              have q4 : (j : Int) + (K : Int) < (s.size : Int) := by omega
              have q5 : ¬ ((s.size : Int) ≤ (j : Int) + (K : Int)) := by omega
              have hyb := y.toNat_lt
              have ht2 : Hid ((inr lo2 hi2 y && tailOk (1 - K) 128 191 (s.data.toList.drop (j + (K + 1)))) = tailOk 1 128 191 (s.data.toList.drop (j + 1))) := by
                have h1 := ht.out
                rw [show 1 + 1 - K = (1 - K) + 1 by omega, tail_step _ _ _ s _ hin, hy] at h1
                exact Lib.hid h1
              clear ht
              by_cases l1 : y.toNat < lo2
              · have l1z : (y.toNat : Int) < (lo2 : Int) := by omega
                have hrf : r = false := by
                  have h1 := ht2.out
                  have e : inr lo2 hi2 y = false := by unfold inr; simp; omega
                  rw [e, Bool.false_and] at h1
                  rw [← HV.out, T1.out, ← h1]; rfl
                subst hrf
                clear q3 q1
                have q1 : IntKind.i64.wrap ((j : Int) + (K : Int)) = (j : Int) + (K : Int) := IntWalk.i64_in _ (by omega)
                have q3 : ((j : Int) + (K : Int)).toNat = j + K := by omega
                go_wp2
                go_ret
                exact ⟨rfl, rfl⟩
              · have l1z : ¬ (y.toNat : Int) < (lo2 : Int) := by omega
                by_cases l2 : hi2 < y.toNat
                · have l2z : (hi2 : Int) < (y.toNat : Int) := by omega
                  have hrf : r = false := by
                    have h1 := ht2.out
                    have e : inr lo2 hi2 y = false := by unfold inr; simp; omega
                    rw [e, Bool.false_and] at h1
                    rw [← HV.out, T1.out, ← h1]; rfl
                  subst hrf
                  go_wp2
                  go_ret
                  exact ⟨rfl, rfl⟩
                · have l2z : ¬ (hi2 : Int) < (y.toNat : Int) := by omega
                  have ht3 : Hid (tailOk (1 - K) 128 191 (s.data.toList.drop (j + (K + 1))) = tailOk 1 128 191 (s.data.toList.drop (j + 1))) := by
                    have h1 := ht2.out
                    have e : inr lo2 hi2 y = true := by unfold inr; simp; omega
                    rw [e, Bool.true_and] at h1
                    exact Lib.hid h1
                  go_wp2
                  go_round
                  case rel => exact ⟨K + 1, 128, 191, by omega, by omega, by omega, by go_num, rfl, rfl, by rw [show 1 + 1 - (K + 1) = 1 - K by omega]; exact ht3⟩
                  case measure => simp [intOf]; omega
            · have q4 : (s.size : Int) ≤ (j : Int) + (K : Int) := by omega
              have hrf : r = false := by
                have h1 := ht.out
                rw [show 1 + 1 - K = (1 - K) + 1 by omega, tail_past _ _ _ s _ (by omega)] at h1
                rw [← HV.out, T1.out, ← h1]; rfl
              subst hrf
              go_wp2
              go_ret
              exact ⟨rfl, rfl⟩
          · obtain rfl : K = 1 + 1 := by omega
            have hv2 : Hid (V (s.data.toList.drop (j + (1 + 1))) = r) := by
              have h1 := ht.out
              rw [Nat.sub_self] at h1
              have h2 := HV.out
              rw [T1.out, ← h1, tailOk, Bool.true_and] at h2
              rw [show j + (1 + 1) = j + 1 + 1 by omega]
              exact Lib.hid h2
            go_wp2
            go_round
            case rel => exact ⟨j + (1 + 1), by omega, by go_num, hv2⟩
            case measure => simp [intOf]; omega
      by_cases c2 : x.toNat = 224
      · have T1 : Hid (V (x :: s.data.toList.drop (j + 1)) = (tailOk 2 160 191 (s.data.toList.drop (j + 1)) && V (s.data.toList.drop (j + 1 + 2)))) := by
          have e : lead x.toNat = some (2, 160, 191) := by
            unfold lead
            repeat' split
            all_goals first | rfl | (exfalso; omega)
          rw [V_some _ _ e, List.drop_drop]
          exact Lib.hid rfl
        have z0 : ¬ ((x.toNat : Int) < 128) := by omega
        have z1 : 194 ≤ (x.toNat : Int) := by omega
        have z2 : ¬ ((x.toNat : Int) ≤ 223) := by omega
        have z3 : 224 ≤ (x.toNat : Int) := by omega
        have z4 : (x.toNat : Int) ≤ 239 := by omega
        have z5 : (x.toNat : Int) = 224 := by omega
        have z6 : ¬ ((x.toNat : Int) = 237) := by omega
        go_wp2_with fail
        go_loop [6, 7, 8] (fun lo hi k => ∃ K lo2 hi2 : Nat, 1 ≤ K ∧ K ≤ 2 + 1 ∧ j + K ≤ s.size ∧ k = .int .i64 K ∧ lo = .int .u8 lo2 ∧ hi = .int .u8 hi2 ∧ Hid (tailOk (2 + 1 - K) lo2 hi2 (s.data.toList.drop (j + K)) = tailOk 2 160 191 (s.data.toList.drop (j + 1)))) (fun _ _ k => 2 + 1 - (intOf k).toNat)
        case atStart => exact ⟨1, 160, 191, by omega, by omega, by omega, rfl, rfl, rfl, Lib.hid rfl⟩
        case round =>
          obtain ⟨K, lo2, hi2, hK1, hK2, hK3, rfl, rfl, rfl, ht⟩ := hrel
          by_cases hK : K ≤ 2
          · have q0 : (K : Int) ≤ 2 := by omega
            have q1 : IntKind.i64.wrap ((j : Int) + (K : Int)) = (j : Int) + (K : Int) := IntWalk.i64_in _ (by omega)
            have q2 : (0 : Int) ≤ (j : Int) + (K : Int) := by omega
            have q3 : ((j : Int) + (K : Int)).toNat = j + K := by omega
            by_cases hin : j + K < s.size
            · obtain ⟨y, hy⟩ : ∃ y, s[j + K] = y := ⟨_, rfl⟩
              have q4 : (j : Int) + (K : Int) < (s.size : Int) := by omega
              have q5 : ¬ ((s.size : Int) ≤ (j : Int) + (K : Int)) := by omega
              have hyb := y.toNat_lt
              have ht2 : Hid ((inr lo2 hi2 y && tailOk (2 - K) 128 191 (s.data.toList.drop (j + (K + 1)))) = tailOk 2 160 191 (s.data.toList.drop (j + 1))) := by
                have h1 := ht.out
                rw [show 2 + 1 - K = (2 - K) + 1 by omega, tail_step _ _ _ s _ hin, hy] at h1
                exact Lib.hid h1
              clear ht
              by_cases l1 : y.toNat < lo2
              · have l1z : (y.toNat : Int) < (lo2 : Int) := by omega
                have hrf : r = false := by
                  have h1 := ht2.out
                  have e : inr lo2 hi2 y = false := by unfold inr; simp; omega
                  rw [e, Bool.false_and] at h1
                  rw [← HV.out, T1.out, ← h1]; rfl
                subst hrf
                clear q3 q1
                have q1 : IntKind.i64.wrap ((j : Int) + (K : Int)) = (j : Int) + (K : Int) := IntWalk.i64_in _ (by omega)
                have q3 : ((j : Int) + (K : Int)).toNat = j + K := by omega
                go_wp2
                go_ret
                exact ⟨rfl, rfl⟩
              · have l1z : ¬ (y.toNat : Int) < (lo2 : Int) := by omega
                by_cases l2 : hi2 < y.toNat
                · have l2z : (hi2 : Int) < (y.toNat : Int) := by omega
                  have hrf : r = false := by
                    have h1 := ht2.out
                    have e : inr lo2 hi2 y = false := by unfold inr; simp; omega
                    rw [e, Bool.false_and] at h1
                    rw [← HV.out, T1.out, ← h1]; rfl
                  subst hrf
                  go_wp2
                  go_ret
                  exact ⟨rfl, rfl⟩
                · have l2z : ¬ (hi2 : Int) < (y.toNat : Int) := by omega
                  have ht3 : Hid (tailOk (2 - K) 128 191 (s.data.toList.drop (j + (K + 1))) = tailOk 2 160 191 (s.data.toList.drop (j + 1))) := by
                    have h1 := ht2.out
                    have e : inr lo2 hi2 y = true := by unfold inr; simp; omega
                    rw [e, Bool.true_and] at h1
                    exact Lib.hid h1
                  go_wp2
                  go_round
                  case rel => exact ⟨K + 1, 128, 191, by omega, by omega, by omega, by go_num, rfl, rfl, by rw [show 2 + 1 - (K + 1) = 2 - K by omega]; exact ht3⟩
                  case measure => simp [intOf]; omega
            · have q4 : (s.size : Int) ≤ (j : Int) + (K : Int) := by omega
              have hrf : r = false := by
                have h1 := ht.out
                rw [show 2 + 1 - K = (2 - K) + 1 by omega, tail_past _ _ _ s _ (by omega)] at h1
                rw [← HV.out, T1.out, ← h1]; rfl
              subst hrf
              go_wp2
              go_ret
              exact ⟨rfl, rfl⟩
          · obtain rfl : K = 2 + 1 := by omega
            have hv2 : Hid (V (s.data.toList.drop (j + (2 + 1))) = r) := by
              have h1 := ht.out
              rw [Nat.sub_self] at h1
              have h2 := HV.out
              rw [T1.out, ← h1, tailOk, Bool.true_and] at h2
              rw [show j + (2 + 1) = j + 1 + 2 by omega]
              exact Lib.hid h2
            go_wp2
            go_round
            case rel => exact ⟨j + (2 + 1), by omega, by go_num, hv2⟩
            case measure => simp [intOf]; omega
      by_cases c3 : x.toNat = 237
      · have T1 : Hid (V (x :: s.data.toList.drop (j + 1)) = (tailOk 2 128 159 (s.data.toList.drop (j + 1)) && V (s.data.toList.drop (j + 1 + 2)))) := by
          have e : lead x.toNat = some (2, 128, 159) := by
            unfold lead
            repeat' split
            all_goals first | rfl | (exfalso; omega)
          rw [V_some _ _ e, List.drop_drop]
          exact Lib.hid rfl
        have z0 : ¬ ((x.toNat : Int) < 128) := by omega
        have z1 : 194 ≤ (x.toNat : Int) := by omega
        have z2 : ¬ ((x.toNat : Int) ≤ 223) := by omega
        have z3 : 224 ≤ (x.toNat : Int) := by omega
        have z4 : (x.toNat : Int) ≤ 239 := by omega
        have z5 : ¬ ((x.toNat : Int) = 224) := by omega
        have z6 : (x.toNat : Int) = 237 := by omega
        go_wp2_with fail
        go_loop [6, 7, 8] (fun lo hi k => ∃ K lo2 hi2 : Nat, 1 ≤ K ∧ K ≤ 2 + 1 ∧ j + K ≤ s.size ∧ k = .int .i64 K ∧ lo = .int .u8 lo2 ∧ hi = .int .u8 hi2 ∧ Hid (tailOk (2 + 1 - K) lo2 hi2 (s.data.toList.drop (j + K)) = tailOk 2 128 159 (s.data.toList.drop (j + 1)))) (fun _ _ k => 2 + 1 - (intOf k).toNat)
        case atStart => exact ⟨1, 128, 159, by omega, by omega, by omega, rfl, rfl, rfl, Lib.hid rfl⟩
        case round =>
          obtain ⟨K, lo2, hi2, hK1, hK2, hK3, rfl, rfl, rfl, ht⟩ := hrel
          by_cases hK : K ≤ 2
          · have q0 : (K : Int) ≤ 2 := by omega
            have q1 : IntKind.i64.wrap ((j : Int) + (K : Int)) = (j : Int) + (K : Int) := IntWalk.i64_in _ (by omega)
            have q2 : (0 : Int) ≤ (j : Int) + (K : Int) := by omega
            have q3 : ((j : Int) + (K : Int)).toNat = j + K := by omega
            by_cases hin : j + K < s.size
            · obtain ⟨y, hy⟩ : ∃ y, s[j + K] = y := ⟨_, rfl⟩
              have q4 : (j : Int) + (K : Int) < (s.size : Int) := by omega
              have q5 : ¬ ((s.size : Int) ≤ (j : Int) + (K : Int)) := by omega
              have hyb := y.toNat_lt
              have ht2 : Hid ((inr lo2 hi2 y && tailOk (2 - K) 128 191 (s.data.toList.drop (j + (K + 1)))) = tailOk 2 128 159 (s.data.toList.drop (j + 1))) := by
                have h1 := ht.out
                rw [show 2 + 1 - K = (2 - K) + 1 by omega, tail_step _ _ _ s _ hin, hy] at h1
                exact Lib.hid h1
              clear ht
              by_cases l1 : y.toNat < lo2
              · have l1z : (y.toNat : Int) < (lo2 : Int) := by omega
                have hrf : r = false := by
                  have h1 := ht2.out
                  have e : inr lo2 hi2 y = false := by unfold inr; simp; omega
                  rw [e, Bool.false_and] at h1
                  rw [← HV.out, T1.out, ← h1]; rfl
                subst hrf
                clear q3 q1
                have q1 : IntKind.i64.wrap ((j : Int) + (K : Int)) = (j : Int) + (K : Int) := IntWalk.i64_in _ (by omega)
                have q3 : ((j : Int) + (K : Int)).toNat = j + K := by omega
                go_wp2
                go_ret
                exact ⟨rfl, rfl⟩
              · have l1z : ¬ (y.toNat : Int) < (lo2 : Int) := by omega
                by_cases l2 : hi2 < y.toNat
                · have l2z : (hi2 : Int) < (y.toNat : Int) := by omega
                  have hrf : r = false := by
                    have h1 := ht2.out
                    have e : inr lo2 hi2 y = false := by unfold inr; simp; omega
                    rw [e, Bool.false_and] at h1
                    rw [← HV.out, T1.out, ← h1]; rfl
                  subst hrf
                  go_wp2
                  go_ret
                  exact ⟨rfl, rfl⟩
                · have l2z : ¬ (hi2 : Int) < (y.toNat : Int) := by omega
                  have ht3 : Hid (tailOk (2 - K) 128 191 (s.data.toList.drop (j + (K + 1))) = tailOk 2 128 159 (s.data.toList.drop (j + 1))) := by
                    have h1 := ht2.out
                    have e : inr lo2 hi2 y = true := by unfold inr; simp; omega
                    rw [e, Bool.true_and] at h1
                    exact Lib.hid h1
                  go_wp2
                  go_round
                  case rel => exact ⟨K + 1, 128, 191, by omega, by omega, by omega, by go_num, rfl, rfl, by rw [show 2 + 1 - (K + 1) = 2 - K by omega]; exact ht3⟩
                  case measure => simp [intOf]; omega
            · have q4 : (s.size : Int) ≤ (j : Int) + (K : Int) := by omega
              have hrf : r = false := by
                have h1 := ht.out
                rw [show 2 + 1 - K = (2 - K) + 1 by omega, tail_past _ _ _ s _ (by omega)] at h1
                rw [← HV.out, T1.out, ← h1]; rfl
              subst hrf
              go_wp2
              go_ret
              exact ⟨rfl, rfl⟩
          · obtain rfl : K = 2 + 1 := by omega
            have hv2 : Hid (V (s.data.toList.drop (j + (2 + 1))) = r) := by
              have h1 := ht.out
              rw [Nat.sub_self] at h1
              have h2 := HV.out
              rw [T1.out, ← h1, tailOk, Bool.true_and] at h2
              rw [show j + (2 + 1) = j + 1 + 2 by omega]
              exact Lib.hid h2
            go_wp2
            go_round
            case rel => exact ⟨j + (2 + 1), by omega, by go_num, hv2⟩
            case measure => simp [intOf]; omega
      by_cases c4 : 224 ≤ x.toNat ∧ x.toNat ≤ 239
      · have T1 : Hid (V (x :: s.data.toList.drop (j + 1)) = (tailOk 2 128 191 (s.data.toList.drop (j + 1)) && V (s.data.toList.drop (j + 1 + 2)))) := by
          have e : lead x.toNat = some (2, 128, 191) := by
            unfold lead
            repeat' split
            all_goals first | rfl | (exfalso; omega)
          rw [V_some _ _ e, List.drop_drop]
          exact Lib.hid rfl
        have z0 : ¬ ((x.toNat : Int) < 128) := by omega
        have z1 : 194 ≤ (x.toNat : Int) := by omega
        have z2 : ¬ ((x.toNat : Int) ≤ 223) := by omega
        have z3 : 224 ≤ (x.toNat : Int) := by omega
        have z4 : (x.toNat : Int) ≤ 239 := by omega
        have z5 : ¬ ((x.toNat : Int) = 224) := by omega
        have z6 : ¬ ((x.toNat : Int) = 237) := by omega
        go_wp2_with fail
        go_loop [6, 7, 8] (fun lo hi k => ∃ K lo2 hi2 : Nat, 1 ≤ K ∧ K ≤ 2 + 1 ∧ j + K ≤ s.size ∧ k = .int .i64 K ∧ lo = .int .u8 lo2 ∧ hi = .int .u8 hi2 ∧ Hid (tailOk (2 + 1 - K) lo2 hi2 (s.data.toList.drop (j + K)) = tailOk 2 128 191 (s.data.toList.drop (j + 1)))) (fun _ _ k => 2 + 1 - (intOf k).toNat)
        case atStart => exact ⟨1, 128, 191, by omega, by omega, by omega, rfl, rfl, rfl, Lib.hid rfl⟩
        case round =>
          obtain ⟨K, lo2, hi2, hK1, hK2, hK3, rfl, rfl, rfl, ht⟩ := hrel
          by_cases hK : K ≤ 2
          · have q0 : (K : Int) ≤ 2 := by omega
            have q1 : IntKind.i64.wrap ((j : Int) + (K : Int)) = (j : Int) + (K : Int) := IntWalk.i64_in _ (by omega)
            have q2 : (0 : Int) ≤ (j : Int) + (K : Int) := by omega
            have q3 : ((j : Int) + (K : Int)).toNat = j + K := by omega
            by_cases hin : j + K < s.size
            · obtain ⟨y, hy⟩ : ∃ y, s[j + K] = y := ⟨_, rfl⟩
              have q4 : (j : Int) + (K : Int) < (s.size : Int) := by omega
              have q5 : ¬ ((s.size : Int) ≤ (j : Int) + (K : Int)) := by omega
              have hyb := y.toNat_lt
              have ht2 : Hid ((inr lo2 hi2 y && tailOk (2 - K) 128 191 (s.data.toList.drop (j + (K + 1)))) = tailOk 2 128 191 (s.data.toList.drop (j + 1))) := by
                have h1 := ht.out
                rw [show 2 + 1 - K = (2 - K) + 1 by omega, tail_step _ _ _ s _ hin, hy] at h1
                exact Lib.hid h1
              clear ht
              by_cases l1 : y.toNat < lo2
              · have l1z : (y.toNat : Int) < (lo2 : Int) := by omega
                have hrf : r = false := by
                  have h1 := ht2.out
                  have e : inr lo2 hi2 y = false := by unfold inr; simp; omega
                  rw [e, Bool.false_and] at h1
                  rw [← HV.out, T1.out, ← h1]; rfl
                subst hrf
                clear q3 q1
                have q1 : IntKind.i64.wrap ((j : Int) + (K : Int)) = (j : Int) + (K : Int) := IntWalk.i64_in _ (by omega)
                have q3 : ((j : Int) + (K : Int)).toNat = j + K := by omega
                go_wp2
                go_ret
                exact ⟨rfl, rfl⟩
              · have l1z : ¬ (y.toNat : Int) < (lo2 : Int) := by omega
                by_cases l2 : hi2 < y.toNat
                · have l2z : (hi2 : Int) < (y.toNat : Int) := by omega
                  have hrf : r = false := by
                    have h1 := ht2.out
                    have e : inr lo2 hi2 y = false := by unfold inr; simp; omega
                    rw [e, Bool.false_and] at h1
                    rw [← HV.out, T1.out, ← h1]; rfl
                  subst hrf
                  go_wp2
                  go_ret
                  exact ⟨rfl, rfl⟩
                · have l2z : ¬ (hi2 : Int) < (y.toNat : Int) := by omega
                  have ht3 : Hid (tailOk (2 - K) 128 191 (s.data.toList.drop (j + (K + 1))) = tailOk 2 128 191 (s.data.toList.drop (j + 1))) := by
                    have h1 := ht2.out
                    have e : inr lo2 hi2 y = true := by unfold inr; simp; omega
                    rw [e, Bool.true_and] at h1
                    exact Lib.hid h1
                  go_wp2
                  go_round
                  case rel => exact ⟨K + 1, 128, 191, by omega, by omega, by omega, by go_num, rfl, rfl, by rw [show 2 + 1 - (K + 1) = 2 - K by omega]; exact ht3⟩
                  case measure => simp [intOf]; omega
            · have q4 : (s.size : Int) ≤ (j : Int) + (K : Int) := by omega
              have hrf : r = false := by
                have h1 := ht.out
                rw [show 2 + 1 - K = (2 - K) + 1 by omega, tail_past _ _ _ s _ (by omega)] at h1
                rw [← HV.out, T1.out, ← h1]; rfl
              subst hrf
              go_wp2
              go_ret
              exact ⟨rfl, rfl⟩
          · obtain rfl : K = 2 + 1 := by omega
            have hv2 : Hid (V (s.data.toList.drop (j + (2 + 1))) = r) := by
              have h1 := ht.out
              rw [Nat.sub_self] at h1
              have h2 := HV.out
              rw [T1.out, ← h1, tailOk, Bool.true_and] at h2
              rw [show j + (2 + 1) = j + 1 + 2 by omega]
              exact Lib.hid h2
            go_wp2
            go_round
            case rel => exact ⟨j + (2 + 1), by omega, by go_num, hv2⟩
            case measure => simp [intOf]; omega
      by_cases c5 : x.toNat = 240
      · have T1 : Hid (V (x :: s.data.toList.drop (j + 1)) = (tailOk 3 144 191 (s.data.toList.drop (j + 1)) && V (s.data.toList.drop (j + 1 + 3)))) := by
          have e : lead x.toNat = some (3, 144, 191) := by
            unfold lead
            repeat' split
            all_goals first | rfl | (exfalso; omega)
          rw [V_some _ _ e, List.drop_drop]
          exact Lib.hid rfl
        have z0 : ¬ ((x.toNat : Int) < 128) := by omega
        have z1 : 194 ≤ (x.toNat : Int) := by omega
        have z2 : ¬ ((x.toNat : Int) ≤ 223) := by omega
        have z3 : 224 ≤ (x.toNat : Int) := by omega
        have z4 : ¬ ((x.toNat : Int) ≤ 239) := by omega
        have z5 : 240 ≤ (x.toNat : Int) := by omega
        have z6 : (x.toNat : Int) ≤ 244 := by omega
        have z7 : (x.toNat : Int) = 240 := by omega
        have z8 : ¬ ((x.toNat : Int) = 244) := by omega
        go_wp2_with fail
        go_loop [6, 7, 8] (fun lo hi k => ∃ K lo2 hi2 : Nat, 1 ≤ K ∧ K ≤ 3 + 1 ∧ j + K ≤ s.size ∧ k = .int .i64 K ∧ lo = .int .u8 lo2 ∧ hi = .int .u8 hi2 ∧ Hid (tailOk (3 + 1 - K) lo2 hi2 (s.data.toList.drop (j + K)) = tailOk 3 144 191 (s.data.toList.drop (j + 1)))) (fun _ _ k => 3 + 1 - (intOf k).toNat)
        case atStart => exact ⟨1, 144, 191, by omega, by omega, by omega, rfl, rfl, rfl, Lib.hid rfl⟩
        case round =>
          obtain ⟨K, lo2, hi2, hK1, hK2, hK3, rfl, rfl, rfl, ht⟩ := hrel
          by_cases hK : K ≤ 3
          · have q0 : (K : Int) ≤ 3 := by omega
            have q1 : IntKind.i64.wrap ((j : Int) + (K : Int)) = (j : Int) + (K : Int) := IntWalk.i64_in _ (by omega)
            have q2 : (0 : Int) ≤ (j : Int) + (K : Int) := by omega
            have q3 : ((j : Int) + (K : Int)).toNat = j + K := by omega
            by_cases hin : j + K < s.size
            · obtain ⟨y, hy⟩ : ∃ y, s[j + K] = y := ⟨_, rfl⟩
              have q4 : (j : Int) + (K : Int) < (s.size : Int) := by omega
              have q5 : ¬ ((s.size : Int) ≤ (j : Int) + (K : Int)) := by omega
              have hyb := y.toNat_lt
              have ht2 : Hid ((inr lo2 hi2 y && tailOk (3 - K) 128 191 (s.data.toList.drop (j + (K + 1)))) = tailOk 3 144 191 (s.data.toList.drop (j + 1))) := by
                have h1 := ht.out
                rw [show 3 + 1 - K = (3 - K) + 1 by omega, tail_step _ _ _ s _ hin, hy] at h1
                exact Lib.hid h1
              clear ht
              by_cases l1 : y.toNat < lo2
              · have l1z : (y.toNat : Int) < (lo2 : Int) := by omega
                have hrf : r = false := by
                  have h1 := ht2.out
                  have e : inr lo2 hi2 y = false := by unfold inr; simp; omega
                  rw [e, Bool.false_and] at h1
                  rw [← HV.out, T1.out, ← h1]; rfl
                subst hrf
                clear q3 q1
                have q1 : IntKind.i64.wrap ((j : Int) + (K : Int)) = (j : Int) + (K : Int) := IntWalk.i64_in _ (by omega)
                have q3 : ((j : Int) + (K : Int)).toNat = j + K := by omega
                go_wp2
                go_ret
                exact ⟨rfl, rfl⟩
              · have l1z : ¬ (y.toNat : Int) < (lo2 : Int) := by omega
                by_cases l2 : hi2 < y.toNat
                · have l2z : (hi2 : Int) < (y.toNat : Int) := by omega
                  have hrf : r = false := by
                    have h1 := ht2.out
                    have e : inr lo2 hi2 y = false := by unfold inr; simp; omega
                    rw [e, Bool.false_and] at h1
                    rw [← HV.out, T1.out, ← h1]; rfl
                  subst hrf
                  go_wp2
                  go_ret
                  exact ⟨rfl, rfl⟩
                · have l2z : ¬ (hi2 : Int) < (y.toNat : Int) := by omega
                  have ht3 : Hid (tailOk (3 - K) 128 191 (s.data.toList.drop (j + (K + 1))) = tailOk 3 144 191 (s.data.toList.drop (j + 1))) := by
                    have h1 := ht2.out
                    have e : inr lo2 hi2 y = true := by unfold inr; simp; omega
                    rw [e, Bool.true_and] at h1
                    exact Lib.hid h1
                  go_wp2
                  go_round
                  case rel => exact ⟨K + 1, 128, 191, by omega, by omega, by omega, by go_num, rfl, rfl, by rw [show 3 + 1 - (K + 1) = 3 - K by omega]; exact ht3⟩
                  case measure => simp [intOf]; omega
            · have q4 : (s.size : Int) ≤ (j : Int) + (K : Int) := by omega
              have hrf : r = false := by
                have h1 := ht.out
                rw [show 3 + 1 - K = (3 - K) + 1 by omega, tail_past _ _ _ s _ (by omega)] at h1
                rw [← HV.out, T1.out, ← h1]; rfl
              subst hrf
              go_wp2
              go_ret
              exact ⟨rfl, rfl⟩
          · obtain rfl : K = 3 + 1 := by omega
            have hv2 : Hid (V (s.data.toList.drop (j + (3 + 1))) = r) := by
              have h1 := ht.out
              rw [Nat.sub_self] at h1
              have h2 := HV.out
              rw [T1.out, ← h1, tailOk, Bool.true_and] at h2
              rw [show j + (3 + 1) = j + 1 + 3 by omega]
              exact Lib.hid h2
            go_wp2
            go_round
            case rel => exact ⟨j + (3 + 1), by omega, by go_num, hv2⟩
            case measure => simp [intOf]; omega
      by_cases c6 : x.toNat = 244
      · have T1 : Hid (V (x :: s.data.toList.drop (j + 1)) = (tailOk 3 128 143 (s.data.toList.drop (j + 1)) && V (s.data.toList.drop (j + 1 + 3)))) := by
          have e : lead x.toNat = some (3, 128, 143) := by
            unfold lead
            repeat' split
            all_goals first | rfl | (exfalso; omega)
          rw [V_some _ _ e, List.drop_drop]
          exact Lib.hid rfl
        have z0 : ¬ ((x.toNat : Int) < 128) := by omega
        have z1 : 194 ≤ (x.toNat : Int) := by omega
        have z2 : ¬ ((x.toNat : Int) ≤ 223) := by omega
        have z3 : 224 ≤ (x.toNat : Int) := by omega
        have z4 : ¬ ((x.toNat : Int) ≤ 239) := by omega
        have z5 : 240 ≤ (x.toNat : Int) := by omega
        have z6 : (x.toNat : Int) ≤ 244 := by omega
        have z7 : ¬ ((x.toNat : Int) = 240) := by omega
        have z8 : (x.toNat : Int) = 244 := by omega
        go_wp2_with fail
        go_loop [6, 7, 8] (fun lo hi k => ∃ K lo2 hi2 : Nat, 1 ≤ K ∧ K ≤ 3 + 1 ∧ j + K ≤ s.size ∧ k = .int .i64 K ∧ lo = .int .u8 lo2 ∧ hi = .int .u8 hi2 ∧ Hid (tailOk (3 + 1 - K) lo2 hi2 (s.data.toList.drop (j + K)) = tailOk 3 128 143 (s.data.toList.drop (j + 1)))) (fun _ _ k => 3 + 1 - (intOf k).toNat)
        case atStart => exact ⟨1, 128, 143, by omega, by omega, by omega, rfl, rfl, rfl, Lib.hid rfl⟩
        case round =>
          obtain ⟨K, lo2, hi2, hK1, hK2, hK3, rfl, rfl, rfl, ht⟩ := hrel
          by_cases hK : K ≤ 3
          · have q0 : (K : Int) ≤ 3 := by omega
            have q1 : IntKind.i64.wrap ((j : Int) + (K : Int)) = (j : Int) + (K : Int) := IntWalk.i64_in _ (by omega)
            have q2 : (0 : Int) ≤ (j : Int) + (K : Int) := by omega
            have q3 : ((j : Int) + (K : Int)).toNat = j + K := by omega
            by_cases hin : j + K < s.size
            · obtain ⟨y, hy⟩ : ∃ y, s[j + K] = y := ⟨_, rfl⟩
              have q4 : (j : Int) + (K : Int) < (s.size : Int) := by omega
              have q5 : ¬ ((s.size : Int) ≤ (j : Int) + (K : Int)) := by omega
              have hyb := y.toNat_lt
              have ht2 : Hid ((inr lo2 hi2 y && tailOk (3 - K) 128 191 (s.data.toList.drop (j + (K + 1)))) = tailOk 3 128 143 (s.data.toList.drop (j + 1))) := by
                have h1 := ht.out
                rw [show 3 + 1 - K = (3 - K) + 1 by omega, tail_step _ _ _ s _ hin, hy] at h1
                exact Lib.hid h1
              clear ht
              by_cases l1 : y.toNat < lo2
              · have l1z : (y.toNat : Int) < (lo2 : Int) := by omega
                have hrf : r = false := by
                  have h1 := ht2.out
                  have e : inr lo2 hi2 y = false := by unfold inr; simp; omega
                  rw [e, Bool.false_and] at h1
                  rw [← HV.out, T1.out, ← h1]; rfl
                subst hrf
                clear q3 q1
                have q1 : IntKind.i64.wrap ((j : Int) + (K : Int)) = (j : Int) + (K : Int) := IntWalk.i64_in _ (by omega)
                have q3 : ((j : Int) + (K : Int)).toNat = j + K := by omega
                go_wp2
                go_ret
                exact ⟨rfl, rfl⟩
              · have l1z : ¬ (y.toNat : Int) < (lo2 : Int) := by omega
                by_cases l2 : hi2 < y.toNat
                · have l2z : (hi2 : Int) < (y.toNat : Int) := by omega
                  have hrf : r = false := by
                    have h1 := ht2.out
                    have e : inr lo2 hi2 y = false := by unfold inr; simp; omega
                    rw [e, Bool.false_and] at h1
                    rw [← HV.out, T1.out, ← h1]; rfl
                  subst hrf
                  go_wp2
                  go_ret
                  exact ⟨rfl, rfl⟩
                · have l2z : ¬ (hi2 : Int) < (y.toNat : Int) := by omega
                  have ht3 : Hid (tailOk (3 - K) 128 191 (s.data.toList.drop (j + (K + 1))) = tailOk 3 128 143 (s.data.toList.drop (j + 1))) := by
                    have h1 := ht2.out
                    have e : inr lo2 hi2 y = true := by unfold inr; simp; omega
                    rw [e, Bool.true_and] at h1
                    exact Lib.hid h1
                  go_wp2
                  go_round
                  case rel => exact ⟨K + 1, 128, 191, by omega, by omega, by omega, by go_num, rfl, rfl, by rw [show 3 + 1 - (K + 1) = 3 - K by omega]; exact ht3⟩
                  case measure => simp [intOf]; omega
            · have q4 : (s.size : Int) ≤ (j : Int) + (K : Int) := by omega
              have hrf : r = false := by
                have h1 := ht.out
                rw [show 3 + 1 - K = (3 - K) + 1 by omega, tail_past _ _ _ s _ (by omega)] at h1
                rw [← HV.out, T1.out, ← h1]; rfl
              subst hrf
              go_wp2
              go_ret
              exact ⟨rfl, rfl⟩
          · obtain rfl : K = 3 + 1 := by omega
            have hv2 : Hid (V (s.data.toList.drop (j + (3 + 1))) = r) := by
              have h1 := ht.out
              rw [Nat.sub_self] at h1
              have h2 := HV.out
              rw [T1.out, ← h1, tailOk, Bool.true_and] at h2
              rw [show j + (3 + 1) = j + 1 + 3 by omega]
              exact Lib.hid h2
            go_wp2
            go_round
            case rel => exact ⟨j + (3 + 1), by omega, by go_num, hv2⟩
            case measure => simp [intOf]; omega
      by_cases c7 : 240 ≤ x.toNat ∧ x.toNat ≤ 244
      · have T1 : Hid (V (x :: s.data.toList.drop (j + 1)) = (tailOk 3 128 191 (s.data.toList.drop (j + 1)) && V (s.data.toList.drop (j + 1 + 3)))) := by
          have e : lead x.toNat = some (3, 128, 191) := by
            unfold lead
            repeat' split
            all_goals first | rfl | (exfalso; omega)
          rw [V_some _ _ e, List.drop_drop]
          exact Lib.hid rfl
        have z0 : ¬ ((x.toNat : Int) < 128) := by omega
        have z1 : 194 ≤ (x.toNat : Int) := by omega
        have z2 : ¬ ((x.toNat : Int) ≤ 223) := by omega
        have z3 : 224 ≤ (x.toNat : Int) := by omega
        have z4 : ¬ ((x.toNat : Int) ≤ 239) := by omega
        have z5 : 240 ≤ (x.toNat : Int) := by omega
        have z6 : (x.toNat : Int) ≤ 244 := by omega
        have z7 : ¬ ((x.toNat : Int) = 240) := by omega
        have z8 : ¬ ((x.toNat : Int) = 244) := by omega
        go_wp2_with fail
        go_loop [6, 7, 8] (fun lo hi k => ∃ K lo2 hi2 : Nat, 1 ≤ K ∧ K ≤ 3 + 1 ∧ j + K ≤ s.size ∧ k = .int .i64 K ∧ lo = .int .u8 lo2 ∧ hi = .int .u8 hi2 ∧ Hid (tailOk (3 + 1 - K) lo2 hi2 (s.data.toList.drop (j + K)) = tailOk 3 128 191 (s.data.toList.drop (j + 1)))) (fun _ _ k => 3 + 1 - (intOf k).toNat)
        case atStart => exact ⟨1, 128, 191, by omega, by omega, by omega, rfl, rfl, rfl, Lib.hid rfl⟩
        case round =>
          obtain ⟨K, lo2, hi2, hK1, hK2, hK3, rfl, rfl, rfl, ht⟩ := hrel
          by_cases hK : K ≤ 3
          · have q0 : (K : Int) ≤ 3 := by omega
            have q1 : IntKind.i64.wrap ((j : Int) + (K : Int)) = (j : Int) + (K : Int) := IntWalk.i64_in _ (by omega)
            have q2 : (0 : Int) ≤ (j : Int) + (K : Int) := by omega
            have q3 : ((j : Int) + (K : Int)).toNat = j + K := by omega
            by_cases hin : j + K < s.size
            · obtain ⟨y, hy⟩ : ∃ y, s[j + K] = y := ⟨_, rfl⟩
              have q4 : (j : Int) + (K : Int) < (s.size : Int) := by omega
              have q5 : ¬ ((s.size : Int) ≤ (j : Int) + (K : Int)) := by omega
              have hyb := y.toNat_lt
              have ht2 : Hid ((inr lo2 hi2 y && tailOk (3 - K) 128 191 (s.data.toList.drop (j + (K + 1)))) = tailOk 3 128 191 (s.data.toList.drop (j + 1))) := by
                have h1 := ht.out
                rw [show 3 + 1 - K = (3 - K) + 1 by omega, tail_step _ _ _ s _ hin, hy] at h1
                exact Lib.hid h1
              clear ht
              by_cases l1 : y.toNat < lo2
              · have l1z : (y.toNat : Int) < (lo2 : Int) := by omega
                have hrf : r = false := by
                  have h1 := ht2.out
                  have e : inr lo2 hi2 y = false := by unfold inr; simp; omega
                  rw [e, Bool.false_and] at h1
                  rw [← HV.out, T1.out, ← h1]; rfl
                subst hrf
                clear q3 q1
                have q1 : IntKind.i64.wrap ((j : Int) + (K : Int)) = (j : Int) + (K : Int) := IntWalk.i64_in _ (by omega)
                have q3 : ((j : Int) + (K : Int)).toNat = j + K := by omega
                go_wp2
                go_ret
                exact ⟨rfl, rfl⟩
              · have l1z : ¬ (y.toNat : Int) < (lo2 : Int) := by omega
                by_cases l2 : hi2 < y.toNat
                · have l2z : (hi2 : Int) < (y.toNat : Int) := by omega
                  have hrf : r = false := by
                    have h1 := ht2.out
                    have e : inr lo2 hi2 y = false := by unfold inr; simp; omega
                    rw [e, Bool.false_and] at h1
                    rw [← HV.out, T1.out, ← h1]; rfl
                  subst hrf
                  go_wp2
                  go_ret
                  exact ⟨rfl, rfl⟩
                · have l2z : ¬ (hi2 : Int) < (y.toNat : Int) := by omega
                  have ht3 : Hid (tailOk (3 - K) 128 191 (s.data.toList.drop (j + (K + 1))) = tailOk 3 128 191 (s.data.toList.drop (j + 1))) := by
                    have h1 := ht2.out
                    have e : inr lo2 hi2 y = true := by unfold inr; simp; omega
                    rw [e, Bool.true_and] at h1
                    exact Lib.hid h1
                  go_wp2
                  go_round
                  case rel => exact ⟨K + 1, 128, 191, by omega, by omega, by omega, by go_num, rfl, rfl, by rw [show 3 + 1 - (K + 1) = 3 - K by omega]; exact ht3⟩
                  case measure => simp [intOf]; omega
            · have q4 : (s.size : Int) ≤ (j : Int) + (K : Int) := by omega
              have hrf : r = false := by
                have h1 := ht.out
                rw [show 3 + 1 - K = (3 - K) + 1 by omega, tail_past _ _ _ s _ (by omega)] at h1
                rw [← HV.out, T1.out, ← h1]; rfl
              subst hrf
              go_wp2
              go_ret
              exact ⟨rfl, rfl⟩
          · obtain rfl : K = 3 + 1 := by omega
            have hv2 : Hid (V (s.data.toList.drop (j + (3 + 1))) = r) := by
              have h1 := ht.out
              rw [Nat.sub_self] at h1
              have h2 := HV.out
              rw [T1.out, ← h1, tailOk, Bool.true_and] at h2
              rw [show j + (3 + 1) = j + 1 + 3 by omega]
              exact Lib.hid h2
            go_wp2
            go_round
            case rel => exact ⟨j + (3 + 1), by omega, by go_num, hv2⟩
            case measure => simp [intOf]; omega
      · have hrf : r = false := by
          have e : lead x.toNat = none := by
            unfold lead
            repeat' split
            all_goals first | rfl | (exfalso; omega)
          rw [← HV.out, V_none _ _ e]
        subst hrf
        by_cases c8 : x.toNat < 194
        · have z0 : ¬ ((x.toNat : Int) < 128) := by omega
          have z1 : ¬ (194 ≤ (x.toNat : Int)) := by omega
          have z2 : ¬ (224 ≤ (x.toNat : Int)) := by omega
          have z3 : ¬ (240 ≤ (x.toNat : Int)) := by omega
          go_wp2
          go_ret
          exact ⟨rfl, rfl⟩
        · have z0 : ¬ ((x.toNat : Int) < 128) := by omega
          have z1 : 194 ≤ (x.toNat : Int) := by omega
          have z2 : ¬ ((x.toNat : Int) ≤ 223) := by omega
          have z3 : 224 ≤ (x.toNat : Int) := by omega
          have z4 : ¬ ((x.toNat : Int) ≤ 239) := by omega
          have z5 : 240 ≤ (x.toNat : Int) := by omega
          have z6 : ¬ ((x.toNat : Int) ≤ 244) := by omega
          go_wp2
          go_ret
          exact ⟨rfl, rfl⟩
    · have hjl : ¬ ((j : Int) < (s.size : Int)) := by omega
      have hrt : r = true := by
        have h1 := hv.out
        rw [drop_past s j (by omega)] at h1
        rw [← h1]; rfl
      subst hrt
      go_wp2
      go_ret
      exact ⟨rfl, rfl⟩
end Go.Proofs.YtlcbcgillekphaaGreatDoor.utf
