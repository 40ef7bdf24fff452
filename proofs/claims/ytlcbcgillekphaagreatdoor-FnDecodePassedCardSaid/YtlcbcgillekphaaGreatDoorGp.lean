/-
  Proved: plain laws: behind another text a text's parts are taken as they are alone, their places further on; no program in sight · plain laws: where a text's lines have ended, what follows them changes nothing of their parts; no program in sight · plain laws: a text behind passed lines behind a text of whole lines has the entries of both, with the faults of the second further down; no program in sight · plain laws: how far down a fault lies; no program in sight.
  Conditions: each law's own; a text of at most 4000 bytes where one is read.
-/
import Derived.Test.YtlcbcgillekphaaGreatDoorGc
import Derived.Test.YtlcbcgillekphaaGreatDoorGh
namespace Go.Proofs.YtlcbcgillekphaaGreatDoor.dm
open Go.RowKit Mem
set_option linter.unusedVariables false
set_option linter.unusedSimpArgs false

def sh (k : Nat) (m : M) : M := ⟨k + m.at_, m.part, k + m.from_⟩
def shR {α : Type} (n : Nat) : Res α → Res α
  | .fault l c => .fault (n + l) c
  | .none => .none
  | .some a => .some a
section
variable (X L : List UInt8)
theorem drop_sh (i : Nat) : (X ++ L).drop (X.length + i) = L.drop i := by
  rw [List.drop_append]; simp
theorem get_sh (i : Nat) : (X ++ L)[X.length + i]? = L[i]? := by
  rw [List.getElem?_append_right (by omega)]; simp
theorem len_sh (i : Nat) : (X ++ L).length ≤ X.length + i ↔ L.length ≤ i := by simp
theorem place_sh (f p : Nat) : place (X ++ L) (X.length + f) (X.length + p) = (breaks X + (place L f p).1, (place L f p).2) := by
  have h : (X ++ L).take (X.length + p) = X ++ L.take p := by rw [List.take_append, List.take_of_length_le (by omega)]; simp
  unfold place
  rw [h, breaks_app, drop_sh]
  ext
  · simp only []; omega
  · rfl
theorem bad_sh (k : Nat) (m : M) : (sh k m).bad = sh k m.bad := rfl
theorem flt_sh {α : Type} (m : M) (p : Nat) : flt (α := α) (X ++ L) (sh X.length m) (X.length + p) = (shR (breaks X) (flt (α := α) L m p).1, sh X.length (flt (α := α) L m p).2) := by
  unfold flt
  rw [show (sh X.length m).from_ = X.length + m.from_ from rfl, place_sh, bad_sh]
  rfl
theorem behind_sh (m : M) : behindM (X ++ L) (sh X.length m) = ((behindM L m).1.map (X.length + ·), sh X.length (behindM L m).2) := by
  unfold behindM
  simp only [sh, get_sh, Nat.add_assoc]
  split
  · cases h : L[m.at_ + 1]? with
    | none => rfl
    | some c =>
      simp only []
      split <;> rfl
  · rfl
theorem name_sh (m : M) : nameM (X ++ L) (sh X.length m) = (shR (breaks X) (nameM L m).1, sh X.length (nameM L m).2) := by
  unfold nameM
  simp only [show (sh X.length m).at_ = X.length + m.at_ from rfl, drop_sh]
  have e : ({ sh X.length m with at_ := X.length + m.at_ + (tok 0 (L.drop m.at_)).2 } : M) = sh X.length { m with at_ := m.at_ + (tok 0 (L.drop m.at_)).2 } := by simp [sh, Nat.add_assoc]
  rw [e]
  split
  · exact flt_sh X L _ _
  split
  · exact flt_sh X L _ _
  rw [behind_sh]
  cases h : behindM L { m with at_ := m.at_ + (tok 0 (L.drop m.at_)).2 } with
  | mk o m2 =>
    cases o with
    | none => rfl
    | some p => exact flt_sh X L _ _
theorem tag_sh (m : M) : tagM (X ++ L) (sh X.length m) = (shR (breaks X) (tagM L m).1, sh X.length (tagM L m).2) := by
  unfold tagM
  simp only [show (sh X.length m).at_ = X.length + m.at_ from rfl, show (sh X.length m).part = m.part from rfl, drop_sh, get_sh]
  split
  · rfl
  split
  · simp [sh, shR, Nat.add_assoc]
  simp only [Nat.add_assoc, drop_sh, get_sh, len_sh]
  split
  · exact flt_sh X L { m with at_ := m.at_ + (tok 1 (L.drop m.at_)).2 } _
  split
  · exact flt_sh X L { m with at_ := m.at_ + (tok 1 (L.drop m.at_)).2 } _
  split
  · exact flt_sh X L ⟨m.at_ + ((tok 1 (L.drop m.at_)).2 + (1 + (tok 2 (L.drop (m.at_ + ((tok 1 (L.drop m.at_)).2 + 1)))).2)), m.part, m.from_⟩ (m.at_ + ((tok 1 (L.drop m.at_)).2 + 1))
  split
  · exact flt_sh X L ⟨m.at_ + ((tok 1 (L.drop m.at_)).2 + (1 + (tok 2 (L.drop (m.at_ + ((tok 1 (L.drop m.at_)).2 + 1)))).2)), m.part, m.from_⟩ (m.at_ + ((tok 1 (L.drop m.at_)).2 + 1))
  split
  · rfl
  have hb := behind_sh X L ⟨m.at_ + ((tok 1 (L.drop m.at_)).2 + (1 + (tok 2 (L.drop (m.at_ + ((tok 1 (L.drop m.at_)).2 + 1)))).2)), m.part, m.from_⟩
  unfold sh at hb ⊢
  simp only at hb ⊢
  rw [hb]
  cases h : behindM L ⟨m.at_ + ((tok 1 (L.drop m.at_)).2 + (1 + (tok 2 (L.drop (m.at_ + ((tok 1 (L.drop m.at_)).2 + 1)))).2)), m.part, m.from_⟩ with
  | mk o m2 =>
    cases o with
    | none => rfl
    | some p => exact flt_sh X L _ _
theorem after_sh (m : M) : afterM (X ++ L) (sh X.length m) = ((afterM L m).1.map (X.length + ·), sh X.length (afterM L m).2) := by
  unfold afterM
  simp only [show (sh X.length m).at_ = X.length + m.at_ from rfl, drop_sh, get_sh]
  cases h : L[m.at_]? with
  | none => rfl
  | some c =>
    simp only []
    split
    · simp [sh, Nat.add_assoc]
    split
    · rfl
    simp only [Nat.add_assoc, drop_sh]
    cases h2 : eol (L.drop (m.at_ + runN (inS 0) (L.drop m.at_))) with
    | none => rfl
    | some n => simp [sh, Nat.add_assoc]
def shV (k : Nat) : Nat ⊕ (Nat × List UInt8) → Nat ⊕ (Nat × List UInt8)
  | .inl p => .inl (k + p)
  | .inr q => .inr q
theorem value_sh (m : M) : valueM (X ++ L) (sh X.length m) = (shV X.length (valueM L m).1, sh X.length (valueM L m).2) := by
  unfold valueM
  simp only [show (sh X.length m).at_ = X.length + m.at_ from rfl, drop_sh, get_sh]
  cases h : L[m.at_]? with
  | none => rfl
  | some c =>
    simp only [Nat.add_assoc, drop_sh, len_sh]
    split
    · split
      · rfl
      split
      · rfl
      · rfl
    · split
      · rfl
      split
      · split
        · rfl
        split
        · rfl
        · rfl
      · rfl
theorem field_sh (m : M) : fieldM (X ++ L) (sh X.length m) = (shR (breaks X) (fieldM L m).1, sh X.length (fieldM L m).2) := by
  unfold fieldM
  simp only [show (sh X.length m).at_ = X.length + m.at_ from rfl, show (sh X.length m).part = m.part from rfl, drop_sh, get_sh]
  split
  · rfl
  simp only [Nat.add_assoc, drop_sh, get_sh, len_sh]
  split
  · exact flt_sh X L { m with at_ := m.at_ + (tok 3 (L.drop m.at_)).2 } _
  split
  · exact flt_sh X L { m with at_ := m.at_ + (tok 3 (L.drop m.at_)).2 } _
  split
  · exact flt_sh X L { m with at_ := m.at_ + (tok 3 (L.drop m.at_)).2 } _
  have hv := value_sh X L ⟨m.at_ + ((tok 3 (L.drop m.at_)).2 + 1), m.part, m.from_⟩
  unfold sh at hv ⊢
  simp only at hv ⊢
  rw [hv]
  cases h : valueM L ⟨m.at_ + ((tok 3 (L.drop m.at_)).2 + 1), m.part, m.from_⟩ with
  | mk o m2 =>
    cases o with
    | inl p => exact flt_sh X L _ _
    | inr q =>
      obtain ⟨kd, u⟩ := q
      simp only [shV]
      have ha := after_sh X L m2
      unfold sh at ha
      rw [ha]
      cases h2 : afterM L m2 with
      | mk o3 m3 =>
        cases o3 with
        | none => rfl
        | some p => exact flt_sh X L _ _
theorem time_sh (m : M) : timeM (X ++ L) (sh X.length m) = (shR (breaks X) (timeM L m).1, sh X.length (timeM L m).2) := by
  unfold timeM
  simp only [show (sh X.length m).at_ = X.length + m.at_ from rfl, show (sh X.length m).part = m.part from rfl, drop_sh, get_sh]
  split
  · rfl
  simp only [Nat.add_assoc, drop_sh, get_sh, len_sh]
  cases h : L[m.at_ + runN (inS 10) (L.drop m.at_)]? with
  | none => rfl
  | some c =>
    simp only []
    split
    · exact flt_sh X L ⟨m.at_ + (runN (inS 10) (L.drop m.at_) + runN (inS 12) (L.drop (m.at_ + runN (inS 10) (L.drop m.at_)))), _, _⟩ _
    cases h2 : eol (L.drop (m.at_ + (runN (inS 10) (L.drop m.at_) + runN (inS 0) (L.drop (m.at_ + runN (inS 10) (L.drop m.at_)))))) with
    | some q => rfl
    | none => exact flt_sh X L ⟨m.at_ + (runN (inS 10) (L.drop m.at_) + (runN (inS 0) (L.drop (m.at_ + runN (inS 10) (L.drop m.at_))) + runN (inS 12) (L.drop (m.at_ + (runN (inS 10) (L.drop m.at_) + runN (inS 0) (L.drop (m.at_ + runN (inS 10) (L.drop m.at_)))))))), _, _⟩ _
def shF (n : Nat) : Option (Nat × Nat) → Option (Nat × Nat)
  | some (l, c) => some (n + l, c)
  | none => none
theorem tags_sh : ∀ (f : Nat) (m : M), tagsM (X ++ L) f (sh X.length m) = ((tagsM L f m).1, shF (breaks X) (tagsM L f m).2.1, sh X.length (tagsM L f m).2.2)
  | 0, m => rfl
  | f + 1, m => by
    rw [tagsM, tag_sh, tagsM]
    cases h : tagM L m with
    | mk r m1 =>
      cases r with
      | none => rfl
      | fault l c => rfl
      | some p =>
        simp only [shR]
        rw [tags_sh f m1]
theorem fields_sh : ∀ (f : Nat) (m : M), fieldsM (X ++ L) f (sh X.length m) = ((fieldsM L f m).1, shF (breaks X) (fieldsM L f m).2.1, sh X.length (fieldsM L f m).2.2)
  | 0, m => rfl
  | f + 1, m => by
    rw [fieldsM, field_sh, fieldsM]
    cases h : fieldM L m with
    | mk r m1 =>
      cases r with
      | none => rfl
      | fault l c => rfl
      | some p =>
        simp only [shR]
        rw [fields_sh f m1]
/-- An entry whose fault lies so many lines further down. -/
def En.down (n : Nat) (e : En) : En := { e with fault := shF n e.fault }
end
end Go.Proofs.YtlcbcgillekphaaGreatDoor.dm
namespace Go.Proofs.YtlcbcgillekphaaGreatDoor.dm
open Go.RowKit Mem
set_option linter.unusedVariables false
set_option linter.unusedSimpArgs false

def E10 (l : List UInt8) : Prop := ∃ y, l = y ++ [10]
theorem E10.ne {l : List UInt8} (h : E10 l) : l ≠ [] := by obtain ⟨y, rfl⟩ := h; simp
theorem E10.pos {l : List UInt8} (h : E10 l) : 0 < l.length := by obtain ⟨y, rfl⟩ := h; simp
theorem E10.drop {l : List UInt8} (h : E10 l) {a : Nat} (ha : a < l.length) : E10 (l.drop a) := by
  obtain ⟨y, rfl⟩ := h
  simp at ha
  exact ⟨y.drop a, by rw [List.drop_append_of_le_length (by omega)]⟩
theorem E10.tail {c : UInt8} {t : List UInt8} (h : E10 (c :: t)) (ht : t ≠ []) : E10 t := by
  have := h.drop (a := 1) (by cases t with | nil => exact absurd rfl ht | cons d r => simp)
  simpa using this
theorem E10.one {c : UInt8} (h : E10 [c]) : c = 10 := by
  obtain ⟨y, hy⟩ := h
  have := congrArg List.getLast? hy
  simpa using this
theorem tok_app (p : UInt8 → Bool) (r : UInt8 → UInt8) (hp : p 10 = false) (hr : r 10 = 0) (R : List UInt8) : ∀ (n : Nat) (l : List UInt8), l.length ≤ n → E10 l → tokL p r (l ++ R) = tokL p r l ∧ (tokL p r l).2 < l.length
  | 0, l, hn, h => by have := h.pos; omega
  | n + 1, [], hn, h => absurd rfl h.ne
  | n + 1, [c], hn, h => by
    obtain rfl := h.one
    have h1 : tokL p r [10] = ([], 0) := by simp [tokL, hp]
    rw [h1]
    refine ⟨?_, by simp⟩
    cases R with
    | nil => exact h1
    | cons d t => simp [tokL, hp]
  | n + 1, c :: d :: t, hn, h => by
    simp only [List.length_cons] at hn
    have h1 := tok_app p r hp hr R n (d :: t) (by simp; omega) (h.tail (by simp))
    by_cases hc : c = 92
    · by_cases hd : r d = 0
      · have e : ∀ q, tokL p r (c :: d :: q) = (c :: (tokL p r (d :: q)).1, (tokL p r (d :: q)).2 + 1) := fun q => by rw [tokL, if_pos hc, if_pos hd]
        rw [List.cons_append, List.cons_append, e, e, ← List.cons_append, h1.1]
        refine ⟨rfl, ?_⟩
        have := h1.2
        simp only [List.length_cons] at this ⊢
        omega
      · have ht : t ≠ [] := by
          rintro rfl
          have := (h.tail (by simp)).one
          rw [this, hr] at hd
          exact hd rfl
        have h2 := tok_app p r hp hr R n t (by omega) ((h.tail (by simp)).tail ht)
        have e : ∀ q, tokL p r (c :: d :: q) = (r d :: (tokL p r q).1, (tokL p r q).2 + 2) := fun q => by rw [tokL, if_pos hc, if_neg hd]
        rw [List.cons_append, List.cons_append, e, e, h2.1]
        refine ⟨rfl, ?_⟩
        have := h2.2
        simp only [List.length_cons]
        omega
    · by_cases hd : p c = true
      · have e : ∀ q, tokL p r (c :: d :: q) = (c :: (tokL p r (d :: q)).1, (tokL p r (d :: q)).2 + 1) := fun q => by rw [tokL, if_neg hc, if_pos hd]
        rw [List.cons_append, List.cons_append, e, e, ← List.cons_append, h1.1]
        refine ⟨rfl, ?_⟩
        have := h1.2
        simp only [List.length_cons] at this ⊢
        omega
      · have e : ∀ q, tokL p r (c :: d :: q) = ([], 0) := fun q => by rw [tokL, if_neg hc, if_neg hd]
        rw [List.cons_append, List.cons_append, e, e]
        exact ⟨rfl, by simp⟩
theorem run_app (p : UInt8 → Bool) (hp : p 10 = false) (R : List UInt8) : ∀ (l : List UInt8), E10 l → runN p (l ++ R) = runN p l ∧ runN p l < l.length
  | [], h => absurd rfl h.ne
  | c :: t, h => by
    unfold runN
    cases hc : p c with
    | false => simp [List.takeWhile_cons, hc]
    | true =>
      have ht : t ≠ [] := by
        rintro rfl
        rw [h.one, hp] at hc
        cases hc
      have := run_app p hp R t (h.tail ht)
      unfold runN at this
      simp [List.takeWhile_cons, hc, this.1, this.2]
theorem eol_app (R : List UInt8) {l : List UInt8} (h : E10 l) : eol (l ++ R) = eol l := by
  cases l with
  | nil => exact absurd rfl h.ne
  | cons c t =>
    unfold eol
    simp only [List.cons_append]
    split
    · rfl
    · next hc =>
      cases t with
      | nil => exact absurd h.one hc
      | cons d r => rfl
theorem eol_len {l : List UInt8} {n : Nat} (h : eol l = some n) : n ≤ l.length := by
  unfold eol at h
  cases l with
  | nil => simp at h; omega
  | cons c t =>
    simp only at h
    split at h
    · simp at h; simp; omega
    · split at h
      · cases t with
        | nil => simp at h; simp; omega
        | cons d r =>
          simp only at h
          split at h
          · simp at h; simp; omega
          · cases h
      · cases h
section
variable {H : List UInt8} (hH : E10 H) (R : List UInt8)
include hH
omit hH in
theorem get_app {a : Nat} (ha : a < H.length) : (H ++ R)[a]? = H[a]? := List.getElem?_append_left ha
omit hH in
theorem drop_app {a : Nat} (ha : a ≤ H.length) : (H ++ R).drop a = H.drop a ++ R := List.drop_append_of_le_length ha
omit hH in
theorem place_app {f p : Nat} (hp : p ≤ H.length) : place (H ++ R) f p = place H f p := by
  unfold place
  rw [List.take_append_of_le_length hp]
omit hH in
theorem flt_app {α : Type} {m : M} {p : Nat} (hp : p ≤ H.length) : flt (α := α) (H ++ R) m p = flt H m p := by
  unfold flt
  rw [place_app R hp]
theorem last_lt {a : Nat} {c : UInt8} (h : H[a]? = some c) (hc : c ≠ 10) : a + 1 < H.length := by
  obtain ⟨y, rfl⟩ := hH
  rcases Nat.lt_trichotomy a y.length with h1 | h1 | h1
  · simp; omega
  · subst h1; simp at h; exact absurd h.symm hc
  · rw [List.getElem?_eq_none (by simp; omega)] at h; cases h
theorem tok_at (k : Nat) (hk : k ≤ 3) {a : Nat} (ha : a < H.length) : tok k ((H ++ R).drop a) = tok k (H.drop a) ∧ a + (tok k (H.drop a)).2 < H.length := by
  have h1 : inS (setOf k) 10 = false := by
    have : k = 0 ∨ k = 1 ∨ k = 2 ∨ k = 3 := by omega
    rcases this with rfl | rfl | rfl | rfl <;> decide
  have h2 : rv k 10 = 0 := by
    have : k = 0 ∨ k = 1 ∨ k = 2 ∨ k = 3 := by omega
    rcases this with rfl | rfl | rfl | rfl <;> decide
  have h3 := tok_app _ _ h1 h2 R _ (H.drop a) (Nat.le_refl _) (hH.drop ha)
  rw [List.length_drop] at h3
  rw [drop_app R (by omega)]
  exact ⟨h3.1, by have := h3.2; unfold tok; omega⟩
theorem run_at (k : Nat) (hk : inS k 10 = false) {a : Nat} (ha : a < H.length) : runN (inS k) ((H ++ R).drop a) = runN (inS k) (H.drop a) ∧ a + runN (inS k) (H.drop a) < H.length := by
  have h3 := run_app (inS k) hk R (H.drop a) (hH.drop ha)
  rw [List.length_drop] at h3
  rw [drop_app R (by omega)]
  exact ⟨h3.1, by omega⟩
theorem eol_at {a : Nat} (ha : a < H.length) : eol ((H ++ R).drop a) = eol (H.drop a) ∧ ∀ n, eol (H.drop a) = some n → a + n ≤ H.length := by
  rw [drop_app R (by omega)]
  exact ⟨eol_app R (hH.drop ha), fun n h => by have := eol_len h; rw [List.length_drop] at this; omega⟩
theorem behind_app {m : M} (hm : m.at_ < H.length) : behindM (H ++ R) m = behindM H m ∧ (behindM H m).2.at_ < H.length ∧ (∀ p, (behindM H m).1 = some p → p ≤ H.length) := by
  unfold behindM
  rw [get_app R hm]
  by_cases h : H[m.at_]? = some 44
  · have h1 := last_lt hH h (by decide)
    simp only [h, if_true, get_app R h1]
    refine ⟨trivial, ?_⟩
    cases h2 : H[m.at_ + 1]? with
    | none => exact ⟨h1, fun p hp => by cases hp; omega⟩
    | some c =>
      simp only []
      split
      · exact ⟨h1, fun p hp => by cases hp; omega⟩
      · exact ⟨h1, fun p hp => by cases hp⟩
  · simp only [h, if_false]
    exact ⟨trivial, hm, fun p hp => by cases hp⟩
theorem name_app {m : M} (hm : m.at_ < H.length) : nameM (H ++ R) m = nameM H m ∧ (nameM H m).2.at_ < H.length := by
  have ht := tok_at hH R 0 (by omega) hm
  unfold nameM
  rw [ht.1]
  simp only
  split
  · exact ⟨flt_app R (by omega), ht.2⟩
  split
  · exact ⟨flt_app R (by omega), ht.2⟩
  have hb := behind_app hH R (m := ⟨m.at_ + (tok 0 (H.drop m.at_)).2, m.part, m.from_⟩) ht.2
  rw [hb.1]
  cases h : behindM H ⟨m.at_ + (tok 0 (H.drop m.at_)).2, m.part, m.from_⟩ with
  | mk o m2 =>
    rw [h] at hb
    cases o with
    | none => exact ⟨rfl, hb.2.1⟩
    | some p => exact ⟨flt_app R (hb.2.2 p rfl), hb.2.1⟩
theorem tag_app {m : M} (hm : m.at_ < H.length) : tagM (H ++ R) m = tagM H m ∧ (tagM H m).2.at_ < H.length := by
  have ht := tok_at hH R 1 (by omega) hm
  have hr := run_at hH R 0 (by decide) hm
  unfold tagM
  rw [ht.1, hr.1, get_app R hm]
  simp only
  split
  · exact ⟨rfl, hm⟩
  split
  · exact ⟨rfl, hr.2⟩
  split
  · exact ⟨flt_app R (by omega), ht.2⟩
  rw [get_app R ht.2]
  split
  · exact ⟨flt_app R (by omega), ht.2⟩
  next h61 =>
  have h61' : H[m.at_ + (tok 1 (H.drop m.at_)).2]? = some 61 := by
    by_cases hh : H[m.at_ + (tok 1 (H.drop m.at_)).2]? = some 61
    · exact hh
    · exact absurd (.inr hh) h61
  have h1 := last_lt hH h61' (by decide)
  have h2 := tok_at hH R 2 (by omega) h1
  rw [h2.1]
  split
  · exact ⟨flt_app R (by omega), h2.2⟩
  split
  · exact ⟨flt_app R (by omega), h2.2⟩
  have e1 : ¬ (H ++ R).length ≤ m.at_ + (tok 1 (H.drop m.at_)).2 + 1 + (tok 2 (H.drop (m.at_ + (tok 1 (H.drop m.at_)).2 + 1))).2 := by rw [List.length_append]; omega
  have e2 : ¬ H.length ≤ m.at_ + (tok 1 (H.drop m.at_)).2 + 1 + (tok 2 (H.drop (m.at_ + (tok 1 (H.drop m.at_)).2 + 1))).2 := by omega
  rw [if_neg e1, if_neg e2]
  have hb := behind_app hH R (m := ⟨m.at_ + (tok 1 (H.drop m.at_)).2 + 1 + (tok 2 (H.drop (m.at_ + (tok 1 (H.drop m.at_)).2 + 1))).2, m.part, m.from_⟩) h2.2
  rw [hb.1]
  cases h : behindM H ⟨m.at_ + (tok 1 (H.drop m.at_)).2 + 1 + (tok 2 (H.drop (m.at_ + (tok 1 (H.drop m.at_)).2 + 1))).2, m.part, m.from_⟩ with
  | mk o m2 =>
    rw [h] at hb
    cases o with
    | none => exact ⟨rfl, hb.2.1⟩
    | some p => exact ⟨flt_app R (hb.2.2 p rfl), hb.2.1⟩
theorem after_app {m : M} (hp : m.part ≠ 5) (hm : m.at_ < H.length) : afterM (H ++ R) m = afterM H m ∧ (afterM H m).2.at_ ≤ H.length ∧ ((afterM H m).2.part ≠ 5 → (afterM H m).2.at_ < H.length) ∧ (∀ p, (afterM H m).1 = some p → p ≤ H.length) := by
  have hr := run_at hH R 0 (by decide) hm
  have he := eol_at hH R hr.2
  unfold afterM
  rw [get_app R hm, hr.1]
  cases h : H[m.at_]? with
  | none => rw [List.getElem?_eq_none_iff] at h; omega
  | some c =>
    simp only []
    split
    · next h44 => subst h44; have := last_lt hH h (by decide); exact ⟨rfl, by simp only; omega, fun _ => this, fun p hp => by cases hp⟩
    split
    · exact ⟨rfl, by simp only; omega, fun _ => hm, fun p hp => by cases hp; omega⟩
    rw [he.1]
    cases h2 : eol (H.drop (m.at_ + runN (inS 0) (H.drop m.at_))) with
    | none => exact ⟨rfl, by simp only; omega, fun _ => hr.2, fun p hp => by cases hp⟩
    | some n => exact ⟨rfl, he.2 n h2, fun hh => absurd rfl hh, fun p hp => by cases hp⟩
theorem value_app (hq : ∀ c ∈ H, c ≠ 34) {m : M} (hm : m.at_ < H.length) : valueM (H ++ R) m = valueM H m ∧ (valueM H m).2.at_ < H.length ∧ (∀ p, (valueM H m).1 = .inl p → p ≤ H.length) := by
  have hr := run_at hH R 9 (by decide) hm
  unfold valueM
  rw [get_app R hm, hr.1]
  cases h : H[m.at_]? with
  | none => rw [List.getElem?_eq_none_iff] at h; omega
  | some c =>
    have h34 : c ≠ 34 := hq c (List.mem_of_getElem? h)
    have ht : ((H ++ R).drop m.at_).take (runN (inS 9) (H.drop m.at_)) = (H.drop m.at_).take (runN (inS 9) (H.drop m.at_)) := by
      rw [drop_app R (by omega), List.take_append_of_le_length (runN_le _ _)]
    simp only [if_neg h34, ht]
    refine ⟨trivial, ?_⟩
    split
    · exact ⟨hr.2, fun p hp => by cases hp⟩
    split
    · split
      · exact ⟨hr.2, fun p hp => by cases hp⟩
      split
      · exact ⟨hr.2, fun p hp => by cases hp⟩
      · exact ⟨hr.2, fun p hp => by cases hp⟩
    · exact ⟨hm, fun p hp => by cases hp; omega⟩
theorem field_app (hq : ∀ c ∈ H, c ≠ 34) {m : M} (hm : m.part ≠ 5 → m.at_ < H.length) (hm2 : m.at_ ≤ H.length) : fieldM (H ++ R) m = fieldM H m ∧ (fieldM H m).2.at_ ≤ H.length ∧ ((fieldM H m).2.part ≠ 5 → (fieldM H m).2.at_ < H.length) := by
  unfold fieldM
  by_cases h2 : m.part ≠ 2
  · rw [if_pos h2, if_pos h2]
    exact ⟨rfl, hm2, hm⟩
  · rw [if_neg h2, if_neg h2]
    have hm : m.at_ < H.length := hm (by omega)
    have ht := tok_at hH R 3 (by omega) hm
    rw [ht.1]
    simp only [get_app R ht.2]
    split
    · exact ⟨flt_app R (by omega), by show m.at_ + _ ≤ _; omega, fun _ => ht.2⟩
    split
    · exact ⟨flt_app R (by omega), by show m.at_ + _ ≤ _; omega, fun _ => ht.2⟩
    split
    · exact ⟨flt_app R (by omega), by show m.at_ + _ ≤ _; omega, fun _ => ht.2⟩
    next h61 =>
    have h1 := last_lt hH (Decidable.of_not_not h61) (by decide)
    have hv := value_app hH R hq (m := ⟨m.at_ + (tok 3 (H.drop m.at_)).2 + 1, m.part, m.from_⟩) h1
    rw [hv.1]
    cases h : valueM H ⟨m.at_ + (tok 3 (H.drop m.at_)).2 + 1, m.part, m.from_⟩ with
    | mk o m2 =>
      have hk := value_keep h
      rw [h] at hv
      cases o with
      | inl p => exact ⟨flt_app R (hv.2.2 p rfl), Nat.le_of_lt hv.2.1, fun _ => hv.2.1⟩
      | inr q =>
        obtain ⟨kd, u⟩ := q
        simp only
        have ha := after_app hH R (m := m2) (by have h5 := hk.2.1; simp only at h5; omega) hv.2.1
        rw [ha.1]
        cases h3 : afterM H m2 with
        | mk o3 m3 =>
          rw [h3] at ha
          cases o3 with
          | none => exact ⟨rfl, ha.2.1, ha.2.2.1⟩
          | some p =>
            have hfl := after_flt h3
            have h5 := hk.2.1
            simp only at h5
            exact ⟨flt_app R (ha.2.2.2 p rfl), ha.2.1, fun _ => ha.2.2.1 (by rw [hfl, h5]; omega)⟩
theorem time_app {m : M} (hm : m.part ≠ 5 → m.at_ < H.length) (hm2 : m.at_ ≤ H.length) : timeM (H ++ R) m = timeM H m ∧ (timeM H m).2.at_ ≤ H.length ∧ ((timeM H m).2.part ≠ 5 → (timeM H m).2.at_ < H.length) := by
  unfold timeM
  by_cases h3 : m.part ≠ 3
  · rw [if_pos h3, if_pos h3]
    exact ⟨rfl, hm2, hm⟩
  · rw [if_neg h3, if_neg h3]
    have hm : m.at_ < H.length := hm (by omega)
    have hr := run_at hH R 10 (by decide) hm
    have ht : ((H ++ R).drop m.at_).take (runN (inS 10) (H.drop m.at_)) = (H.drop m.at_).take (runN (inS 10) (H.drop m.at_)) := by
      rw [drop_app R (by omega), List.take_append_of_le_length (runN_le _ _)]
    rw [hr.1]
    simp only [get_app R hr.2, ht]
    have hr2 := run_at hH R 12 (by decide) hr.2
    have hr0 := run_at hH R 0 (by decide) hr.2
    have he := eol_at hH R hr0.2
    have hr3 := run_at hH R 12 (by decide) hr0.2
    rw [hr2.1, hr0.1]
    cases h : H[m.at_ + runN (inS 10) (H.drop m.at_)]? with
    | none => rw [List.getElem?_eq_none_iff] at h; omega
    | some c =>
      simp only []
      split
      · exact ⟨flt_app R (by omega), Nat.le_of_lt hr2.2, fun _ => hr2.2⟩
      rw [he.1]
      cases h2 : eol (H.drop (m.at_ + runN (inS 10) (H.drop m.at_) + runN (inS 0) (H.drop (m.at_ + runN (inS 10) (H.drop m.at_))))) with
      | some n => exact ⟨rfl, he.2 n h2, fun hh => absurd rfl hh⟩
      | none =>
        simp only [hr3.1]
        exact ⟨flt_app R (by omega), Nat.le_of_lt hr3.2, fun _ => hr3.2⟩
end
end Go.Proofs.YtlcbcgillekphaaGreatDoor.dm
namespace Go.Proofs.YtlcbcgillekphaaGreatDoor.dm
open Go.RowKit Mem
set_option linter.unusedVariables false
set_option linter.unusedSimpArgs false

theorem pz_eq (l : List UInt8) : sd.pz l = (match l.drop (runN (inS 0) l) with
    | [] => runN (inS 0) l
    | c :: t => if c = 35 then (match eol ((c :: t).drop (runN (inS 11) (c :: t))) with
        | none => 0
        | some e => runN (inS 0) l + runN (inS 11) (c :: t) + e + sd.pz ((c :: t).drop (runN (inS 11) (c :: t) + e)))
      else (match eol (c :: t) with
        | none => runN (inS 0) l
        | some e => runN (inS 0) l + e + sd.pz ((c :: t).drop e))) := by
  conv => lhs; unfold sd.pz; rw [passed]
  have hl : (l.drop (runN (inS 0) l)).length ≤ l.length := by rw [List.length_drop]; omega
  simp only
  generalize l.drop (runN (inS 0) l) = l1 at hl
  cases l1 with
  | nil => rfl
  | cons c t =>
    simp only
    by_cases h35 : c = 35
    · subst h35
      simp only [if_true]
      cases he : eol ((35 :: t).drop (runN (inS 11) (35 :: t))) with
      | none => rfl
      | some e =>
        simp only
        have hq := @sd.run_pos t
        rw [sd.passed_pz _ _ (by rw [List.length_drop]; simp only [List.length_cons] at hl ⊢; omega)]
    · simp only [h35, if_false]
      cases he : eol (c :: t) with
      | none => rfl
      | some e =>
        simp only
        have hq := sd.eol_pos he
        rw [sd.passed_pz _ _ (by rw [List.length_drop]; simp only [List.length_cons] at hl ⊢; omega)]
/-- What is gone by of whole lines, with another text behind them. -/
theorem pz_app (R : List UInt8) : ∀ (n : Nat) (l : List UInt8), l.length ≤ n → (l = [] ∨ E10 l) → sd.pz (l ++ R) = if sd.pz l < l.length then sd.pz l else l.length + sd.pz R
  | 0, l, hn, h => by
    obtain rfl := List.eq_nil_of_length_eq_zero (by omega : l.length = 0)
    simp
  | n + 1, l, hn, h => by
    rcases h with rfl | h
    · simp
    have hr := run_app (inS 0) (by decide) R l h
    have hd := h.drop hr.2
    rw [pz_eq (l ++ R), pz_eq l, hr.1, drop_app R (Nat.le_of_lt hr.2)]
    have hlen : (l.drop (runN (inS 0) l)).length = l.length - runN (inS 0) l := List.length_drop
    generalize hl1 : l.drop (runN (inS 0) l) = l1 at hd hlen
    cases l1 with
    | nil => exact absurd rfl hd.ne
    | cons c t =>
      simp only [List.cons_append]
      have hr1 := run_app (inS 11) (by decide) R (c :: t) hd
      rw [← List.cons_append, hr1.1]
      have rest : ∀ e, 1 ≤ e → e ≤ (c :: t).length → runN (inS 0) l + e + sd.pz ((c :: t ++ R).drop e) = if runN (inS 0) l + e + sd.pz ((c :: t).drop e) < l.length then runN (inS 0) l + e + sd.pz ((c :: t).drop e) else l.length + sd.pz R := fun e h1 h2 => by
        rw [drop_app R h2]
        have ih := pz_app R n ((c :: t).drop e) (by rw [List.length_drop]; omega) (by
          rcases Nat.lt_or_ge e (c :: t).length with h3 | h3
          · exact .inr (hd.drop h3)
          · exact .inl (List.drop_eq_nil_of_le h3))
        rw [ih, List.length_drop]
        split
        · rw [if_pos (by omega)]
        · rw [if_neg (by omega)]; omega
      by_cases h35 : c = 35
      · rw [if_pos h35, if_pos h35]
        have he := eol_app R (hd.drop hr1.2)
        rw [drop_app R (Nat.le_of_lt hr1.2), he]
        cases h2 : eol ((c :: t).drop (runN (inS 11) (c :: t))) with
        | none => simp only; rw [if_pos h.pos]
        | some e =>
          simp only
          have h3 := eol_len h2
          rw [List.length_drop] at h3
          have h4 : 1 ≤ runN (inS 11) (c :: t) := by rw [h35]; exact sd.run_pos
          have := rest (runN (inS 11) (c :: t) + e) (by omega) (by omega)
          simpa only [Nat.add_assoc] using this
      · rw [if_neg h35, if_neg h35, eol_app R hd]
        cases h2 : eol (c :: t) with
        | none => simp only; rw [if_pos hr.2]
        | some e => exact rest e (sd.eol_pos h2) (eol_len h2)
section fuel
variable {T : List UInt8}
theorem tags_fuel : ∀ (f g : Nat) (m : M), m.at_ ≤ T.length → T.length - m.at_ < f → T.length - m.at_ < g → tagsM T f m = tagsM T g m
  | 0, _, m, _, h, _ => by omega
  | f + 1, 0, m, _, _, h => by omega
  | f + 1, g + 1, m, hm, h1, h2 => by
    unfold tagsM
    cases h : tagM T m with
    | mk r m1 =>
      cases r with
      | none => rfl
      | fault l c => rfl
      | some p =>
        have h3 := (tag_some h).1
        have h4 := tag_hi hm h
        simp only
        rw [tags_fuel f g m1 h4 (by omega) (by omega)]
theorem fields_fuel : ∀ (f g : Nat) (m : M), m.at_ ≤ T.length → T.length - m.at_ < f → T.length - m.at_ < g → fieldsM T f m = fieldsM T g m
  | 0, _, m, _, h, _ => by omega
  | f + 1, 0, m, _, _, h => by omega
  | f + 1, g + 1, m, hm, h1, h2 => by
    unfold fieldsM
    cases h : fieldM T m with
    | mk r m1 =>
      cases r with
      | none => rfl
      | fault l c => rfl
      | some p =>
        have h3 := (field_some h).1
        have h4 := field_hi hm h
        simp only
        rw [fields_fuel f g m1 h4 (by omega) (by omega)]
theorem tags_hi : ∀ (f : Nat) (m : M), m.at_ ≤ T.length → (tagsM T f m).2.2.at_ ≤ T.length
  | 0, m, h => h
  | f + 1, m, hm => by
    unfold tagsM
    cases h : tagM T m with
    | mk r m1 =>
      have h4 := tag_hi hm h
      cases r with
      | none => exact h4
      | fault l c => exact h4
      | some p => exact tags_hi f m1 h4
theorem fields_hi : ∀ (f : Nat) (m : M), m.at_ ≤ T.length → (fieldsM T f m).2.2.at_ ≤ T.length
  | 0, m, h => h
  | f + 1, m, hm => by
    unfold fieldsM
    cases h : fieldM T m with
    | mk r m1 =>
      have h4 := field_hi hm h
      cases r with
      | none => exact h4
      | fault l c => exact h4
      | some p => exact fields_hi f m1 h4
/-- What is due behind the tags. -/
theorem tags_part : ∀ (f : Nat) (m : M), m.at_ ≤ T.length → T.length - m.at_ < f → (m.part = 1 ∨ m.part = 2) → ((tagsM T f m).2.1 = none → (tagsM T f m).2.2.part = 2) ∧ (∀ x, (tagsM T f m).2.1 = some x → (tagsM T f m).2.2.part = 4)
  | 0, m, _, h, _ => by omega
  | f + 1, m, hm, h1, hp => by
    unfold tagsM
    cases h : tagM T m with
    | mk r m1 =>
      cases r with
      | none =>
        refine ⟨fun _ => ?_, fun x hx => by cases hx⟩
        have h2 := tag_none (by omega) h
        rcases h2.2.2.2 with h3 | h3
        · exact h3
        · have h5 := h2.1
          rw [h3] at h5
          show m1.part = 2
          rw [h3]
          omega
      | fault l c => exact ⟨fun hx => (by cases hx), fun x _ => tag_flt h⟩
      | some p =>
        have h3 := tag_some h
        have h4 := tag_hi hm h
        exact tags_part f m1 h4 (by omega) h3.2.1
theorem fields_part : ∀ (f : Nat) (m : M), m.at_ ≤ T.length → T.length - m.at_ < f → (m.part = 2 ∨ m.part = 3 ∨ m.part = 5) → ((fieldsM T f m).2.1 = none → (fieldsM T f m).2.2.part = 3 ∨ (fieldsM T f m).2.2.part = 5) ∧ (∀ x, (fieldsM T f m).2.1 = some x → (fieldsM T f m).2.2.part = 4)
  | 0, m, _, h, _ => by omega
  | f + 1, m, hm, h1, hp => by
    unfold fieldsM
    cases h : fieldM T m with
    | mk r m1 =>
      cases r with
      | none =>
        refine ⟨fun _ => ?_, fun x hx => by cases hx⟩
        have h2 := field_none h
        show m1.part = 3 ∨ m1.part = 5
        rw [h2.2]
        have := h2.1
        omega
      | fault l c => exact ⟨fun hx => (by cases hx), fun x _ => field_flt h⟩
      | some p =>
        have h3 := field_some h
        have h4 := field_hi hm h
        exact fields_part f m1 h4 (by omega) h3.2.1
theorem entry_part {m m' : M} {E : En} (hp : m.part = 0) (hm : m.at_ ≤ T.length) (h : entryM T m = (E, m')) : (m'.part = 5 ∨ m'.part = 4) ∧ m'.at_ ≤ T.length := by
  unfold entryM at h
  cases hn : nameM T m with
  | mk r m1 =>
    rw [hn] at h
    have h0 := name_hi hm hn
    cases r with
    | none => exact (name_none hn).elim
    | fault l c =>
      obtain ⟨h1, rfl⟩ := Prod.mk.inj h
      exact ⟨.inr (name_flt (by omega) hn), h0⟩
    | some o =>
      have hs := name_some hn
      have ht := tags_part (T := T) (T.length + 1) m1 h0 (by omega) (.inl hs.1)
      have hth := tags_hi (T := T) (T.length + 1) m1 h0
      simp only at h
      cases h2 : (tagsM T (T.length + 1) m1).2.1 with
      | some x =>
        rw [h2] at h
        obtain ⟨h1, rfl⟩ := Prod.mk.inj h
        exact ⟨.inr (ht.2 x h2), hth⟩
      | none =>
        rw [h2] at h
        simp only at h
        have hf := fields_part (T := T) (T.length + 1) _ hth (by omega) (.inl (ht.1 h2))
        have hfh := fields_hi (T := T) (T.length + 1) _ hth
        cases h3 : (fieldsM T (T.length + 1) (tagsM T (T.length + 1) m1).2.2).2.1 with
        | some x =>
          rw [h3] at h
          obtain ⟨h1, rfl⟩ := Prod.mk.inj h
          exact ⟨.inr (hf.2 x h3), hfh⟩
        | none =>
          rw [h3] at h
          simp only at h
          cases h4 : timeM T (fieldsM T (T.length + 1) (tagsM T (T.length + 1) m1).2.2).2.2 with
          | mk r4 m4 =>
            rw [h4] at h
            have hth := time_hi hfh h4
            cases r4 with
            | none =>
              obtain ⟨h1, rfl⟩ := Prod.mk.inj h
              have h5 := time_none h4
              have h6 := hf.1 h3
              have h7 : m4.part = 5 := by rw [h5.2]; have := h5.1; omega
              exact ⟨.inl h7, hth⟩
            | fault l c =>
              obtain ⟨h1, rfl⟩ := Prod.mk.inj h
              exact ⟨time_flt h4, hth⟩
            | some o3 =>
              obtain ⟨h1, rfl⟩ := Prod.mk.inj h
              exact ⟨.inl (time_some h4), hth⟩
theorem mu_less {x s x2 x3 s3 : Nat} (hs : s = 5 ∨ s = 4) (h1 : x ≤ x2) (h2 : s ≠ 5 → x < x2) (h3 : x2 ≤ x3) (h4 : s3 = 4 ∨ x2 < x3) (h5 : s3 = 5 ∨ s3 = 4) (h6 : x2 < T.length) (h7 : x3 ≤ T.length) : mu T x3 s3 < mu T x s := by
  unfold mu
  rcases hs with rfl | rfl <;> rcases h5 with rfl | rfl <;> simp <;> omega
/-- One round: the entry, and how much less is left. -/
theorem round_less {m m2 : M} {E : En} (hp : m.part = 5 ∨ m.part = 4) (hm : m.at_ ≤ T.length) (hb : (nextM T m).at_ < T.length) (h : entryM T (nextM T m) = (E, m2)) : (m2.part = 5 ∨ m2.part = 4) ∧ m2.at_ ≤ T.length ∧ mu T m2.at_ m2.part < mu T m.at_ m.part := by
  have hx := next_le T m.at_ m.part m.from_ hm
  have he := entry_le rfl h
  have hq := entry_part rfl (by omega) h
  exact ⟨hq.1, hq.2, mu_less hp hx.1 (fun h => hx.2 h (by have := hx.1; have : (nextM T ⟨m.at_, m.part, m.from_⟩).at_ = (nextM T m).at_ := rfl; omega)) he.1 he.2 hq.1 hb hq.2⟩
theorem entries_fuel : ∀ (f g : Nat) (m : M), (m.part = 5 ∨ m.part = 4) → m.at_ ≤ T.length → mu T m.at_ m.part < f → mu T m.at_ m.part < g → entriesM T f m = entriesM T g m
  | 0, _, m, _, _, h, _ => by omega
  | f + 1, 0, m, _, _, _, h => by omega
  | f + 1, g + 1, m, hp, hm, h1, h2 => by
    unfold entriesM
    simp only
    by_cases hb : (nextM T m).at_ < T.length
    · rw [if_pos hb, if_pos hb]
      cases h : entryM T (nextM T m) with
      | mk E m2 =>
        have hr := round_less hp hm hb h
        rw [entries_fuel f g m2 hr.1 hr.2.1 (by omega) (by omega)]
    · rw [if_neg hb, if_neg hb]
end fuel
section suffix
variable (X L : List UInt8)
theorem next_sh (m : M) (hm : m.at_ ≤ L.length) : nextM (X ++ L) (sh X.length m) = sh X.length (nextM L m) := by
  unfold nextM
  simp only [show (sh X.length m).at_ = X.length + m.at_ from rfl, show (sh X.length m).part = m.part from rfl, drop_sh]
  have key : ∀ a, a ≤ L.length → (X.length + a) + passed ((X ++ L).length + 1) ((X ++ L).drop (X.length + a)) = X.length + (a + passed (L.length + 1) (L.drop a)) := fun a ha => by
    rw [drop_sh, sd.passed_pz _ (L.drop a) (by rw [List.length_drop, List.length_append]; omega), sd.passed_pz _ (L.drop a) (by rw [List.length_drop]; omega)]
    omega
  by_cases h5 : m.part = 5
  · simp only [h5, if_true]
    rw [key _ hm]
    rfl
  · simp only [h5, if_false]
    have e : min (X.length + m.at_ + runN (inS 13) (L.drop m.at_) + 1) (X ++ L).length = X.length + min (m.at_ + runN (inS 13) (L.drop m.at_) + 1) L.length := by rw [List.length_append]; omega
    rw [e, key _ (by omega)]
    rfl
theorem entry_sh (m : M) (hm : m.at_ ≤ L.length) : entryM (X ++ L) (sh X.length m) = ((entryM L m).1.down (breaks X), sh X.length (entryM L m).2) := by
  unfold entryM
  rw [name_sh]
  cases hn : nameM L m with
  | mk r m1 =>
    have h0 := name_hi hm hn
    cases r with
    | none => rfl
    | fault l c => rfl
    | some o =>
      simp only [shR]
      have e1 : tagsM (X ++ L) ((X ++ L).length + 1) (sh X.length m1) = tagsM (X ++ L) (L.length + 1) (sh X.length m1) :=
        tags_fuel _ _ _ (by rw [List.length_append]; show X.length + m1.at_ ≤ _; omega) (by rw [List.length_append]; show _ - (X.length + m1.at_) < _; omega) (by rw [List.length_append]; show _ - (X.length + m1.at_) < _; omega)
      rw [e1, tags_sh]
      have hth := tags_hi (T := L) (L.length + 1) m1 h0
      cases h2 : (tagsM L (L.length + 1) m1).2.1 with
      | some x => rfl
      | none =>
        simp only [shF]
        generalize (tagsM L (L.length + 1) m1).2.2 = m2 at hth
        have e2 : fieldsM (X ++ L) ((X ++ L).length + 1) (sh X.length m2) = fieldsM (X ++ L) (L.length + 1) (sh X.length m2) :=
          fields_fuel _ _ _ (by rw [List.length_append]; show X.length + m2.at_ ≤ _; omega) (by rw [List.length_append]; show _ - (X.length + m2.at_) < _; omega) (by rw [List.length_append]; show _ - (X.length + m2.at_) < _; omega)
        rw [e2, fields_sh]
        cases h3 : (fieldsM L (L.length + 1) m2).2.1 with
        | some x => rfl
        | none =>
          simp only [shF]
          rw [time_sh]
          cases h4 : timeM L (fieldsM L (L.length + 1) m2).2.2 with
          | mk r4 m4 => cases r4 <;> rfl
theorem entries_sh : ∀ (f : Nat) (m : M), m.at_ ≤ L.length → entriesM (X ++ L) f (sh X.length m) = (entriesM L f m).map (En.down (breaks X))
  | 0, m, _ => rfl
  | f + 1, m, hm => by
    unfold entriesM
    simp only
    rw [next_sh X L m hm]
    by_cases hb : (nextM L m).at_ < L.length
    · rw [if_pos hb, if_pos (by rw [List.length_append]; show X.length + (nextM L m).at_ < _; omega)]
      rw [entry_sh X L _ (by omega)]
      cases h : entryM L (nextM L m) with
      | mk E m2 =>
        have h1 := (entry_part rfl (by omega) h).2
        simp only [List.map_cons]
        rw [entries_sh f m2 h1]
    · rw [if_neg hb, if_neg (by rw [List.length_append]; show ¬ X.length + (nextM L m).at_ < _; omega)]
      rfl
end suffix
section pre
variable {H : List UInt8} (hH : E10 H) (hq : ∀ c ∈ H, c ≠ 34) (R : List UInt8)
include hH
theorem tags_app : ∀ (f : Nat) (m : M), m.at_ < H.length → tagsM (H ++ R) f m = tagsM H f m ∧ (tagsM H f m).2.2.at_ < H.length
  | 0, m, hm => ⟨rfl, hm⟩
  | f + 1, m, hm => by
    have ht := tag_app hH R hm
    unfold tagsM
    rw [ht.1]
    cases h : tagM H m with
    | mk r m1 =>
      rw [h] at ht
      cases r with
      | none => exact ⟨rfl, ht.2⟩
      | fault l c => exact ⟨rfl, ht.2⟩
      | some p =>
        have := tags_app f m1 ht.2
        simp only
        rw [this.1]
        exact ⟨rfl, this.2⟩
include hq
theorem fields_app : ∀ (f : Nat) (m : M), m.at_ ≤ H.length → (m.part ≠ 5 → m.at_ < H.length) → fieldsM (H ++ R) f m = fieldsM H f m ∧ (fieldsM H f m).2.2.at_ ≤ H.length ∧ ((fieldsM H f m).2.2.part ≠ 5 → (fieldsM H f m).2.2.at_ < H.length)
  | 0, m, h1, h2 => ⟨rfl, h1, h2⟩
  | f + 1, m, h1, h2 => by
    have ht := field_app hH R hq h2 h1
    unfold fieldsM
    rw [ht.1]
    cases h : fieldM H m with
    | mk r m1 =>
      rw [h] at ht
      cases r with
      | none => exact ⟨rfl, ht.2⟩
      | fault l c => exact ⟨rfl, ht.2⟩
      | some p =>
        have := fields_app f m1 ht.2.1 ht.2.2
        simp only
        rw [this.1]
        exact ⟨rfl, this.2⟩
theorem entry_app {m : M} (hp : m.part ≠ 5) (hm : m.at_ < H.length) : entryM (H ++ R) m = entryM H m ∧ (entryM H m).2.at_ ≤ H.length ∧ ((entryM H m).2.part ≠ 5 → (entryM H m).2.at_ < H.length) := by
  have hn := name_app hH R hm
  unfold entryM
  rw [hn.1]
  cases h0 : nameM H m with
  | mk r m1 =>
    rw [h0] at hn
    cases r with
    | none => exact ⟨rfl, Nat.le_of_lt hn.2, fun _ => hn.2⟩
    | fault l c => exact ⟨rfl, Nat.le_of_lt hn.2, fun _ => hn.2⟩
    | some o =>
      simp only
      have ht := tags_app hH R ((H ++ R).length + 1) m1 hn.2
      have ef : tagsM H ((H ++ R).length + 1) m1 = tagsM H (H.length + 1) m1 := tags_fuel _ _ _ (Nat.le_of_lt hn.2) (by rw [List.length_append]; omega) (by omega)
      rw [ef] at ht
      rw [ht.1]
      cases h2 : (tagsM H (H.length + 1) m1).2.1 with
      | some x => exact ⟨rfl, Nat.le_of_lt ht.2, fun _ => ht.2⟩
      | none =>
        simp only
        generalize (tagsM H (H.length + 1) m1).2.2 = m2 at ht
        have hf := fields_app hH hq R ((H ++ R).length + 1) m2 (Nat.le_of_lt ht.2) (fun _ => ht.2)
        have eg : fieldsM H ((H ++ R).length + 1) m2 = fieldsM H (H.length + 1) m2 := fields_fuel _ _ _ (Nat.le_of_lt ht.2) (by rw [List.length_append]; omega) (by omega)
        rw [eg] at hf
        rw [hf.1]
        cases h3 : (fieldsM H (H.length + 1) m2).2.1 with
        | some x => exact ⟨rfl, hf.2⟩
        | none =>
          simp only
          have h4 := time_app hH R hf.2.2 hf.2.1
          rw [h4.1]
          cases h5 : timeM H (fieldsM H (H.length + 1) m2).2.2 with
          | mk r4 m4 =>
            rw [h5] at h4
            cases r4 <;> exact ⟨rfl, h4.2⟩
omit hq in
/-- The next entry: within the first text, or behind it. -/
theorem next_app {m : M} (h1 : m.at_ ≤ H.length) (h2 : m.part ≠ 5 → m.at_ < H.length) :
    ((nextM H m).at_ < H.length ∧ nextM (H ++ R) m = nextM H m) ∨ (¬ (nextM H m).at_ < H.length ∧ nextM (H ++ R) m = ⟨H.length + sd.pz R, 0, H.length + sd.pz R⟩) := by
  obtain ⟨a, ha, e1, e2⟩ : ∃ a, a ≤ H.length ∧ nextM H m = ⟨a + sd.pz (H.drop a), 0, a + sd.pz (H.drop a)⟩ ∧ nextM (H ++ R) m = ⟨a + sd.pz (H.drop a ++ R), 0, a + sd.pz (H.drop a ++ R)⟩ := by
    by_cases h5 : m.part = 5
    · refine ⟨m.at_, h1, ?_, ?_⟩
      · unfold nextM
        simp only [h5, if_true]
        rw [sd.passed_pz _ _ (by rw [List.length_drop]; omega)]
      · unfold nextM
        simp only [h5, if_true]
        rw [sd.passed_pz _ _ (by rw [List.length_drop]; omega), drop_app R h1]
    · have hr := run_at hH R 13 (by decide) (h2 h5)
      refine ⟨m.at_ + runN (inS 13) (H.drop m.at_) + 1, by omega, ?_, ?_⟩
      · unfold nextM
        simp only [h5, if_false]
        rw [Nat.min_eq_left (by omega), sd.passed_pz _ _ (by rw [List.length_drop]; omega)]
      · unfold nextM
        simp only [h5, if_false]
        rw [hr.1, Nat.min_eq_left (by rw [List.length_append]; omega), sd.passed_pz _ _ (by rw [List.length_drop]; omega), drop_app R (by omega)]
  have hp := pz_app R _ (H.drop a) (Nat.le_refl _) (by
    rcases Nat.lt_or_ge a H.length with h3 | h3
    · exact .inr (hH.drop h3)
    · exact .inl (List.drop_eq_nil_of_le h3))
  have hlen : (H.drop a).length = H.length - a := List.length_drop
  have hle := sd.pz_le (H.drop a)
  rw [e1, e2, hp]
  by_cases h3 : sd.pz (H.drop a) < (H.drop a).length
  · rw [if_pos h3]
    exact .inl ⟨by simp only; omega, rfl⟩
  · rw [if_neg h3]
    refine .inr ⟨by simp only; omega, ?_⟩
    have : a + ((H.drop a).length + sd.pz R) = H.length + sd.pz R := by omega
    rw [this]
/-- The entries of the first text, and then those of what follows. -/
theorem entries_app (B L : List UInt8) (hB : E10 B) (hpB : sd.pz B = B.length) : ∀ (f g : Nat) (m : M), m.at_ ≤ H.length → (m.part = 5 ∨ m.part = 4) → (m.part ≠ 5 → m.at_ < H.length) → mu H m.at_ m.part < g → mu H m.at_ m.part + 2 * L.length + 2 ≤ f →
    entriesM (H ++ (B ++ L)) f m = entriesM H g m ++ (allM L).map (En.down (breaks (H ++ B)))
  | 0, _, m, _, _, _, _, h => by omega
  | f + 1, 0, m, _, _, _, h, _ => by omega
  | f + 1, g + 1, m, h1, hp, h2, h3, h4 => by
    rcases next_app hH (B ++ L) h1 h2 with ⟨hb, e⟩ | ⟨hb, e⟩
    · have he := entry_app hH hq (B ++ L) (m := nextM H m) (by show (0 : Nat) ≠ 5; decide) hb
      unfold entriesM
      simp only
      rw [e, if_pos hb, if_pos (by rw [List.length_append]; omega), he.1]
      cases h : entryM H (nextM H m) with
      | mk E m2 =>
        rw [h] at he
        have hr := round_less hp h1 hb h
        simp only [List.cons_append]
        rw [entries_app B L hB hpB f g m2 hr.2.1 hr.1 he.2.2 (by omega) (by omega)]
    · have hpl : sd.pz (B ++ L) = B.length + sd.pz L := by
        rw [pz_app L _ B (Nat.le_refl _) (.inr hB), if_neg (by omega)]
      have e2 : nextM ((H ++ B) ++ L) (sh (H ++ B).length ⟨0, 5, 0⟩) = ⟨H.length + sd.pz (B ++ L), 0, H.length + sd.pz (B ++ L)⟩ := by
        rw [next_sh _ _ _ (Nat.zero_le _)]
        unfold nextM sh
        simp only [if_true]
        rw [sd.passed_pz _ _ (by simp), hpl, List.length_append]
        simp only [List.drop_zero, Nat.zero_add, Nat.add_assoc]
      have e3 : entriesM (H ++ (B ++ L)) (f + 1) m = entriesM ((H ++ B) ++ L) (f + 1) (sh (H ++ B).length ⟨0, 5, 0⟩) := by
        rw [← List.append_assoc] at e ⊢
        unfold entriesM
        simp only
        rw [e, e2]
      have e4 : entriesM H (g + 1) m = [] := by
        unfold entriesM
        simp only
        rw [if_neg hb]
      rw [e3, e4, entries_sh _ _ _ _ (Nat.zero_le _), List.nil_append]
      unfold allM
      rw [entries_fuel (f + 1) (2 * L.length + 2) ⟨0, 5, 0⟩ (.inl rfl) (Nat.zero_le _) (by unfold mu; simp; omega) (by unfold mu; simp)]
/-- Lines that are gone by, between two texts. -/
theorem all_app (B L : List UInt8) (hB : E10 B) (hpB : sd.pz B = B.length) : allM (H ++ (B ++ L)) = allM H ++ (allM L).map (En.down (breaks (H ++ B))) := by
  have hb := hB.pos
  have := entries_app hH hq B L hB hpB (2 * (H ++ (B ++ L)).length + 2) (2 * H.length + 2) ⟨0, 5, 0⟩ (Nat.zero_le _) (.inl rfl) (fun h => absurd rfl h) (by unfold mu; simp) (by unfold mu; simp; omega)
  exact this
end pre
end Go.Proofs.YtlcbcgillekphaaGreatDoor.dm
namespace Go.Proofs.YtlcbcgillekphaaGreatDoor.dm
open Go.RowKit Mem
set_option linter.unusedVariables false
set_option linter.unusedSimpArgs false

section
variable {T : List UInt8}
theorem flt_line {α : Type} {m m' : M} {p l c : Nat} (h : flt (α := α) T m p = (.fault l c, m')) : l ≤ T.length + 1 := by
  have h1 := (flt_inj h).1
  simp only [Res.fault.injEq] at h1
  have h2 := breaks_le (T.take p)
  have h3 : (T.take p).length ≤ T.length := by rw [List.length_take]; omega
  rw [h1.1]
  unfold place
  simp only
  omega
theorem name_line {m m' : M} {l c : Nat} (h : nameM T m = (.fault l c, m')) : l ≤ T.length + 1 := by
  unfold nameM at h
  dsimp only at h
  repeat' split at h
  all_goals first
    | exact flt_line h
    | (have h1 := (Prod.mk.inj h).1; cases h1; done)
theorem tag_line {m m' : M} {l c : Nat} (h : tagM T m = (.fault l c, m')) : l ≤ T.length + 1 := by
  unfold tagM at h
  dsimp only at h
  repeat' split at h
  all_goals first
    | exact flt_line h
    | (have h1 := (Prod.mk.inj h).1; cases h1; done)
theorem field_line {m m' : M} {l c : Nat} (h : fieldM T m = (.fault l c, m')) : l ≤ T.length + 1 := by
  unfold fieldM at h
  dsimp only at h
  split at h
  · have h1 := (Prod.mk.inj h).1; cases h1
  · split at h
    · exact flt_line h
    · split at h
      · exact flt_line h
      · split at h
        · exact flt_line h
        · split at h
          · exact flt_line h
          · split at h
            · exact flt_line h
            · have h1 := (Prod.mk.inj h).1; cases h1
theorem time_line {m m' : M} {l c : Nat} (h : timeM T m = (.fault l c, m')) : l ≤ T.length + 1 := by
  unfold timeM at h
  dsimp only at h
  repeat' split at h
  all_goals first
    | exact flt_line h
    | (have h1 := (Prod.mk.inj h).1; cases h1; done)
theorem tags_line : ∀ (f : Nat) (m : M) (l c : Nat), (tagsM T f m).2.1 = some (l, c) → l ≤ T.length + 1
  | 0, m, l, c, h => by cases h
  | f + 1, m, l, c, h => by
    unfold tagsM at h
    cases h1 : tagM T m with
    | mk r m1 =>
      rw [h1] at h
      cases r with
      | none => cases h
      | fault l2 c2 => cases h; exact tag_line h1
      | some p => exact tags_line f m1 l c h
theorem fields_line : ∀ (f : Nat) (m : M) (l c : Nat), (fieldsM T f m).2.1 = some (l, c) → l ≤ T.length + 1
  | 0, m, l, c, h => by cases h
  | f + 1, m, l, c, h => by
    unfold fieldsM at h
    cases h1 : fieldM T m with
    | mk r m1 =>
      rw [h1] at h
      cases r with
      | none => cases h
      | fault l2 c2 => cases h; exact field_line h1
      | some p => exact fields_line f m1 l c h
theorem entry_line (m : M) (l c : Nat) (h : (entryM T m).1.fault = some (l, c)) : l ≤ T.length + 1 := by
  unfold entryM at h
  cases hn : nameM T m with
  | mk r m1 =>
    rw [hn] at h
    cases r with
    | none => cases h
    | fault l2 c2 => cases h; exact name_line hn
    | some o =>
      simp only at h
      cases h2 : (tagsM T (T.length + 1) m1).2.1 with
      | some x =>
        rw [h2] at h
        simp only [Option.some.injEq] at h
        subst h
        exact tags_line _ _ _ _ h2
      | none =>
        rw [h2] at h
        simp only at h
        cases h3 : (fieldsM T (T.length + 1) (tagsM T (T.length + 1) m1).2.2).2.1 with
        | some x =>
          rw [h3] at h
          simp only [Option.some.injEq] at h
          subst h
          exact fields_line _ _ _ _ h3
        | none =>
          rw [h3] at h
          simp only at h
          cases h4 : timeM T (fieldsM T (T.length + 1) (tagsM T (T.length + 1) m1).2.2).2.2 with
          | mk r4 m4 =>
            rw [h4] at h
            cases r4 with
            | none => cases h
            | fault l2 c2 => cases h; exact time_line h4
            | some o3 => cases h
theorem entries_line : ∀ (f : Nat) (m : M), ∀ e ∈ entriesM T f m, ∀ l c, e.fault = some (l, c) → l ≤ T.length + 1
  | 0, m, e, he, l, c, h => by cases he
  | f + 1, m, e, he, l, c, h => by
    unfold entriesM at he
    simp only at he
    split at he
    · rcases List.mem_cons.1 he with h1 | h1
      · subst h1; exact entry_line _ l c h
      · exact entries_line f _ e h1 l c h
    · cases he
theorem all_line : ∀ e ∈ allM T, ∀ l c, e.fault = some (l, c) → l ≤ T.length + 1 := entries_line _ _
end
end Go.Proofs.YtlcbcgillekphaaGreatDoor.dm
