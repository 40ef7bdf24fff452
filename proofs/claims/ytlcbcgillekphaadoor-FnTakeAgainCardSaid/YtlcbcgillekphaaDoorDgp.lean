/-
  Proved: plain laws: behind what was taken of a set, of empty lines, or as a token, there is no more of it.
  Conditions: none.
-/
import Derived.Test.YtlcbcgillekphaaDoorDm
namespace Go.Proofs.YtlcbcgillekphaaDoor.dm
set_option linter.unusedVariables false

theorem runN_again (P : UInt8 → Bool) (l : List UInt8) : runN P (l.drop (runN P l)) = 0 := by
  unfold runN
  induction l with
  | nil => rfl
  | cons c t ih =>
    by_cases hc : P c = true
    · rw [List.takeWhile_cons_of_pos hc]
      simpa using ih
    · rw [List.takeWhile_cons_of_neg hc]
      simp [List.takeWhile_cons_of_neg hc]
theorem tokL_again (p : UInt8 → Bool) (r : UInt8 → UInt8) : ∀ (n : Nat) (l : List UInt8), l.length ≤ n → tokL p r (l.drop (tokL p r l).2) = ([], 0)
  | 0, l, h => by
    obtain rfl : l = [] := List.eq_nil_of_length_eq_zero (by omega)
    rfl
  | n + 1, [], h => rfl
  | n + 1, [c], h => by
    by_cases h1 : c = 92 ∨ p c = true
    · have e : tokL p r [c] = ([c], 1) := by unfold tokL; rw [if_pos h1]
      rw [e]; rfl
    · have e : tokL p r [c] = ([], 0) := by unfold tokL; rw [if_neg h1]
      rw [e]
      exact e
  | n + 1, c :: d :: t, h => by
    simp only [List.length_cons] at h
    have h1 := tokL_again p r n (d :: t) (by simp; omega)
    have h2 := tokL_again p r n t (by omega)
    by_cases hc : c = 92
    · by_cases hd : r d = 0
      · have e : tokL p r (c :: d :: t) = (c :: (tokL p r (d :: t)).1, (tokL p r (d :: t)).2 + 1) := by
          rw [tokL, if_pos hc, if_pos hd]
        rw [e]
        exact h1
      · have e : tokL p r (c :: d :: t) = (r d :: (tokL p r t).1, (tokL p r t).2 + 2) := by
          rw [tokL, if_pos hc, if_neg hd]
        rw [e]
        exact h2
    · by_cases hp : p c = true
      · have e : tokL p r (c :: d :: t) = (c :: (tokL p r (d :: t)).1, (tokL p r (d :: t)).2 + 1) := by
          rw [tokL, if_neg hc, if_pos hp]
        rw [e]
        exact h1
      · have e : tokL p r (c :: d :: t) = ([], 0) := by
          rw [tokL, if_neg hc, if_neg hp]
        rw [e]
        exact e
theorem passed_nil (g : Nat) : passed g [] = 0 := by
  cases g with
  | zero => rfl
  | succ g => rfl
/-- What passed says, by cases. -/
theorem passed_step (f : Nat) (l : List UInt8) :
    (l.drop (runN (inS 0) l) = [] ∧ passed (f + 1) l = runN (inS 0) l) ∨
    (∃ c t, l.drop (runN (inS 0) l) = c :: t ∧
      ((c = 35 ∧ eol ((c :: t).drop (runN (inS 11) (c :: t))) = none ∧ passed (f + 1) l = 0) ∨
       (∃ e, c = 35 ∧ eol ((c :: t).drop (runN (inS 11) (c :: t))) = some e ∧ passed (f + 1) l = runN (inS 0) l + runN (inS 11) (c :: t) + e + passed f ((c :: t).drop (runN (inS 11) (c :: t) + e))) ∨
       (c ≠ 35 ∧ eol (c :: t) = none ∧ passed (f + 1) l = runN (inS 0) l) ∨
       (∃ e, c ≠ 35 ∧ eol (c :: t) = some e ∧ passed (f + 1) l = runN (inS 0) l + e + passed f ((c :: t).drop e)))) := by
  rw [passed]
  simp only []
  cases h : l.drop (runN (inS 0) l) with
  | nil => exact .inl ⟨rfl, rfl⟩
  | cons c t =>
    refine .inr ⟨c, t, rfl, ?_⟩
    simp only []
    by_cases hc : c = 35
    · rw [if_pos hc]
      cases he : eol ((c :: t).drop (runN (inS 11) (c :: t))) with
      | none => exact .inl ⟨hc, rfl, rfl⟩
      | some e => exact .inr (.inl ⟨e, hc, rfl, rfl⟩)
    · rw [if_neg hc]
      cases he : eol (c :: t) with
      | none => exact .inr (.inr (.inl ⟨hc, rfl, rfl⟩))
      | some e => exact .inr (.inr (.inr ⟨e, hc, rfl, rfl⟩))
theorem eol_one {c : UInt8} {t : List UInt8} {e : Nat} (h : eol (c :: t) = some e) : 1 ≤ e := by
  unfold eol at h
  simp only [] at h
  split at h
  · simp at h; omega
  · split at h
    · split at h
      · simp at h; omega
      · split at h
        · simp at h; omega
        · cases h
    · cases h
theorem eol_le {l : List UInt8} {e : Nat} (h : eol l = some e) : e ≤ l.length := by
  match l with
  | [] => simp [eol] at h; omega
  | [c] =>
    simp only [eol] at h
    split at h
    · simp at h; simp; omega
    · split at h
      · simp at h; simp; omega
      · cases h
  | c :: d :: t =>
    simp only [eol] at h
    split at h
    · simp at h; simp; omega
    · split at h
      · split at h
        · simp at h; simp; omega
        · cases h
      · cases h
theorem passed_le : ∀ (f : Nat) (l : List UInt8), passed f l ≤ l.length
  | 0, l => Nat.zero_le _
  | f + 1, l => by
    have hn := runN_le (inS 0) l
    rcases passed_step f l with ⟨h1, h2⟩ | ⟨c, t, h1, h2⟩
    · rw [h2]; exact hn
    · have hlen := congrArg List.length h1
      rw [List.length_drop] at hlen
      rcases h2 with ⟨hc, he, hp⟩ | ⟨e, hc, he, hp⟩ | ⟨hc, he, hp⟩ | ⟨e, hc, he, hp⟩
      · rw [hp]; exact Nat.zero_le _
      · have h3 := passed_le f ((c :: t).drop (runN (inS 11) (c :: t) + e))
        have h4 := eol_le he
        have h5 := runN_le (inS 11) (c :: t)
        rw [List.length_drop] at h3 h4
        rw [hp]; omega
      · rw [hp]; exact hn
      · have h3 := passed_le f ((c :: t).drop e)
        have h4 := eol_le he
        rw [List.length_drop] at h3
        rw [hp]; omega
theorem passed_again : ∀ (f : Nat) (l : List UInt8), l.length ≤ f → ∀ g, passed (g + 1) (l.drop (passed (f + 1) l)) = 0 := by
  intro f
  induction f using Nat.strongRecOn with
  | _ f ih =>
    intro l hl g
    rcases passed_step f l with ⟨h1, h2⟩ | ⟨c, t, h1, h2⟩
    · rw [h2, h1]; exact passed_nil _
    · have hlen : (c :: t).length + runN (inS 0) l = l.length := by
        have := congrArg List.length h1
        rw [List.length_drop] at this
        have := runN_le (inS 0) l
        simp only [List.length_cons] at *
        omega
      simp only [List.length_cons] at hlen
      rcases h2 with ⟨hc, he, hp⟩ | ⟨e, hc, he, hp⟩ | ⟨hc, he, hp⟩ | ⟨e, hc, he, hp⟩
      · rw [hp, List.drop_zero]
        rcases passed_step g l with ⟨k1, k2⟩ | ⟨c', t', k1, k2⟩
        · rw [h1] at k1; cases k1
        · rw [h1] at k1
          cases k1
          rcases k2 with ⟨_, _, kp⟩ | ⟨e', _, ke, _⟩ | ⟨kc, _, _⟩ | ⟨e', kc, _, _⟩
          · exact kp
          · rw [he] at ke; cases ke
          · exact absurd hc kc
          · exact absurd hc kc
      · obtain ⟨f', rfl⟩ : ∃ f', f = f' + 1 := ⟨f - 1, by omega⟩
        have hq : 1 ≤ runN (inS 11) (c :: t) := by
          unfold runN
          rw [List.takeWhile_cons_of_pos (by rw [hc]; decide)]
          simp
        rw [hp, show runN (inS 0) l + runN (inS 11) (c :: t) + e + passed (f' + 1) ((c :: t).drop (runN (inS 11) (c :: t) + e)) = runN (inS 0) l + ((runN (inS 11) (c :: t) + e) + passed (f' + 1) ((c :: t).drop (runN (inS 11) (c :: t) + e))) by omega,
          ← List.drop_drop, h1, ← List.drop_drop]
        exact ih f' (by omega) _ (by rw [List.length_drop, List.length_cons]; omega) g
      · rw [hp]
        have hz : runN (inS 0) (c :: t) = 0 := by rw [← h1]; exact runN_again _ _
        rcases passed_step g (l.drop (runN (inS 0) l)) with ⟨k1, k2⟩ | ⟨c', t', k1, k2⟩
        · rw [h1, hz] at k1; cases k1
        · rw [h1, hz] at k1
          cases k1
          rcases k2 with ⟨kc, _, _⟩ | ⟨e', kc, _, _⟩ | ⟨_, _, kp⟩ | ⟨e', _, ke, _⟩
          · exact absurd kc hc
          · exact absurd kc hc
          · rw [kp, h1]; exact hz
          · rw [he] at ke; cases ke
      · obtain ⟨f', rfl⟩ : ∃ f', f = f' + 1 := ⟨f - 1, by omega⟩
        have he1 := eol_one he
        rw [hp, show runN (inS 0) l + e + passed (f' + 1) ((c :: t).drop e) = runN (inS 0) l + (e + passed (f' + 1) ((c :: t).drop e)) by omega,
          ← List.drop_drop, h1, ← List.drop_drop]
        exact ih f' (by omega) _ (by rw [List.length_drop, List.length_cons]; omega) g
end Go.Proofs.YtlcbcgillekphaaDoor.dm
