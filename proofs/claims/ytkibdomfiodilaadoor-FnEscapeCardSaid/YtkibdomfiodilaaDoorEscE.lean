/-
  Proved: the contracts of zzCount (of one byte), escapedLen and _escape: how long an escaped text is, and its bytes.
  Conditions: each contract's own (texts of at most 5000 bytes).
-/
import Derived.Test.YtkibdomfiodilaaDoorEscN
import Derived.Lib.VarintMem
import Derived.Deep.MidRow
namespace Go.Proofs.YtkibdomfiodilaaDoor.esc
open Go.RowKit Mem
set_option linter.unusedVariables false

/-- One byte escaped. -/
def escB (k : Int) (c : UInt8) : List UInt8 := if tab k c = 0 then [c] else [92, tab k c]
def esc (k : Int) (l : List UInt8) : List UInt8 := l.flatMap (escB k)
theorem esc_nil (k : Int) : esc k [] = [] := rfl
theorem esc_cons (k : Int) (c : UInt8) (l : List UInt8) : esc k (c :: l) = escB k c ++ esc k l := by simp [esc]
theorem esc_append (k : Int) (a b : List UInt8) : esc k (a ++ b) = esc k a ++ esc k b := by simp [esc]
/-- Bytes that are escaped, among the first j of them. -/
def more (k : Int) (l : List UInt8) : Nat → Nat
  | 0 => 0
  | j + 1 => more k l j + l.count ((escs k).getD j 0)
theorem rep_ne (c : UInt8) (h : KnownB c) : rep c ≠ 0 := by
  rcases h with rfl | rfl | rfl | rfl | rfl | rfl | rfl | rfl <;> decide
theorem escs_known (k : Int) : ∀ c ∈ escs k, KnownB c := by
  intro c hc
  unfold escs at hc
  split at hc
  · simp at hc; unfold KnownB; rcases hc with h | h <;> simp [h]
  split at hc
  · simp at hc; unfold KnownB; rcases hc with h | h | h <;> simp [h]
  split at hc
  · simp at hc; unfold KnownB; rcases hc with h | h | h <;> simp [h]
  split at hc
  · simp at hc; unfold KnownB; rcases hc with h | h | h <;> simp [h]
  · simp at hc; unfold KnownB; rcases hc with h | h | h | h | h <;> simp [h]
theorem count_one (k : Int) (c : UInt8) (hc : c ∈ escs k) : (escs k).count c = 1 := by
  unfold escs at *
  split at hc
  · simp at hc; rcases hc with rfl | rfl <;> simp [*] <;> decide
  split at hc
  · simp at hc; rcases hc with rfl | rfl | rfl <;> simp [*] <;> decide
  split at hc
  · simp at hc; rcases hc with rfl | rfl | rfl <;> simp [*] <;> decide
  split at hc
  · simp at hc; rcases hc with rfl | rfl | rfl <;> simp [*] <;> decide
  · simp at hc; rcases hc with rfl | rfl | rfl | rfl | rfl <;> simp [*] <;> decide
theorem escB_len (k : Int) (c : UInt8) : (escB k c).length = 1 + (escs k).count c := by
  by_cases hm : c ∈ escs k
  · have ht : tab k c = rep c := by simp [tab, hm]
    have h1 : (escs k).count c = 1 := count_one k c hm
    unfold escB
    rw [ht, if_neg (rep_ne c (escs_known k c hm)), h1]
    rfl
  · have ht : tab k c = 0 := by simp [tab, hm]
    have h1 : (escs k).count c = 0 := List.count_eq_zero_of_not_mem hm
    unfold escB
    rw [ht, if_pos rfl, h1]
    rfl
theorem more_nil (k : Int) (j : Nat) : more k [] j = 0 := by
  induction j with
  | zero => rfl
  | succ j ih => simp [more, ih]
theorem more_cons (k : Int) (c : UInt8) (l : List UInt8) : ∀ j, j ≤ (escs k).length → more k (c :: l) j = more k l j + ((escs k).take j).count c := by
  intro j
  induction j with
  | zero => intro _; simp [more]
  | succ j ih =>
    intro hj
    rw [more, more, ih (by omega), List.count_cons, List.take_succ_eq_append_getElem (by omega : j < (escs k).length), List.count_append]
    have e : (escs k).getD j 0 = (escs k)[j]'(by omega) := by simp [List.getD, List.getElem?_eq_getElem (by omega : j < (escs k).length)]
    rw [e]
    simp only [List.count_cons, List.count_nil, Nat.zero_add]
    have : (c == (escs k)[j]'(by omega)) = ((escs k)[j]'(by omega) == c) := Bool.beq_comm
    rw [this]
    omega
theorem esc_len (k : Int) (l : List UInt8) : (esc k l).length = l.length + more k l (escs k).length := by
  induction l with
  | nil => simp [esc, more_nil]
  | cons c r ih =>
    rw [esc_cons, List.length_append, escB_len, ih, more_cons k c r _ (Nat.le_refl _), List.take_length, List.length_cons]
    omega
theorem more_le (k : Int) (l : List UInt8) : ∀ j, j ≤ 5 → more k l j ≤ j * l.length := by
  intro j
  induction j with
  | zero => intro _; simp [more]
  | succ j ih =>
    intro hj
    have h1 := ih (by omega)
    have h2 : l.count ((escs k).getD j 0) ≤ l.length := List.count_le_length
    rw [more, Nat.succ_mul]
    omega
theorem escs_len (k : Int) : (escs k).length ≤ 5 := by
  unfold escs
  split
  · decide
  split
  · decide
  split
  · decide
  split <;> decide

theorem count58 (s : ByteArray) (c : UInt8) (hs : s.size ≤ 5000) (w : World) :
    Calls Tryd.prog 58 #[.string s, .string ⟨#[c]⟩] w fun e w' => e = .returned (.int .i64 (s.data.toList.count c)) ∧ w = w' := by
  go_enter Tryd.func58, Tryd.ntmps58
  go_wp2_with fail
  go_loop [5, 6] (fun n i => ∃ j : Nat, j ≤ s.size ∧ i = .int .i64 j ∧ n = .int .i64 ((s.data.toList.take j).count c)) (fun _ i => s.size - (intOf i).toNat)
  case atStart => exact ⟨0, Nat.zero_le _, rfl, by simp⟩
  case round =>
    obtain ⟨j, hj, rfl, rfl⟩ := hrel
    by_cases hlt : j < s.size
    · have hpl : j < s.data.toList.length := by simpa using hlt
      have htk : s.data.toList.take (j + 1) = s.data.toList.take j ++ [s[j]'hlt] := by
        rw [List.take_succ_eq_append_getElem hpl]
        rfl
      have hct : (s.data.toList.take (j + 1)).count c = (s.data.toList.take j).count c + (if s[j]'hlt == c then 1 else 0) := by
        rw [htk, List.count_append]
        simp [List.count_cons]
      have hex : s.extract j (j + 1) = ⟨#[s[j]'hlt]⟩ := by
        apply ByteArray.ext
        simp only [ByteArray.data_extract]
        apply Array.ext'
        simp only [Array.toList_extract, List.extract_eq_take_drop]
        rw [show j + 1 - j = 1 from by omega, List.drop_eq_getElem_cons hpl]
        rfl
      have hcl : (s.data.toList.take j).count c ≤ j := Nat.le_trans List.count_le_length (by rw [List.length_take]; omega)
      generalize s[j]'hlt = x at *
      generalize (s.data.toList.take j).count c = m at *
      have HCT := Lib.hid hct
      clear hct htk
      have hle : (j : Int) + 1 ≤ (s.size : Int) := by omega
      by_cases hx : x = c
      · subst hx
        have HCT2 : Hid ((s.data.toList.take (j + 1)).count x = m + 1) := Lib.hid (by rw [HCT.out]; simp)
        clear HCT
        go_wp2
        go_round
        case rel => exact ⟨j + 1, by omega, by go_num, by rw [HCT2.out]; go_num⟩
        case measure => simp [intOf]; omega
      · have hbq : (x == c) = false := beq_eq_false_iff_ne.2 hx
        have HCT2 : Hid ((s.data.toList.take (j + 1)).count c = m) := Lib.hid (by rw [HCT.out, hbq]; simp)
        clear HCT
        go_wp2
        go_round
        case rel => exact ⟨j + 1, by omega, by go_num, by rw [HCT2.out]⟩
        case measure => simp [intOf]; omega
    · have he : j = s.size := by omega
      have hall : s.data.toList.take j = s.data.toList := by rw [he]; exact List.take_of_length_le (by simp)
      rw [hall]
      have hgt : ¬ ((j : Int) + 1 ≤ (s.size : Int)) := by omega
      go_wp2
      go_ret
      exact ⟨rfl, rfl⟩
end Go.Proofs.YtkibdomfiodilaaDoor.esc
