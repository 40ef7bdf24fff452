/-
  Proved: the contracts of the reference's Tag, Field and Time at every part that an entry's reader meets; how far they come · plain laws: no part of the plain decoder comes behind the text's end · plain laws on where the laws' reader of entries stands.
  Conditions: each law's own; a text of at most 4000 bytes where one is read.
-/
import Derived.Test.YtlcbcgillekphaaGreatDoorSd9
import Derived.Test.YtlcbcgillekphaaGreatDoorSe7
import Derived.Test.YtlcbcgillekphaaGreatDoorSdd
import Derived.Test.YtlcbcgillekphaaGreatDoorGc
import Derived.Test.YtlcbcgillekphaaGreatDoorGe
namespace Go.Proofs.YtlcbcgillekphaaGreatDoor.sd
open Go.RowKit Mem rw ent
set_option linter.unusedVariables false
set_option linter.unusedSimpArgs false

theorem field38 (P : Nat) (s : ByteArray) (hs : s.size ≤ 4000) (a f : Nat) (w : World) (h : SD w P s a 2 f) (ha : a ≤ s.size) (hf : f ≤ a) :
    Calls Tryz.prog 38 #[.pointer (some ⟨P, 0, none⟩)] w (FdOut P s (dm.fieldM s.data.toList ⟨a, 2, f⟩) w) := by
  obtain ⟨o, q, aq, HTOK, HAQ, hq1, hq2⟩ := tok_to (s := s) (a := a) 3 ha
  by_cases hE : utf.V o = true ∧ ¬ o = [] ∧ s.data.toList[aq]? = some 61
  · obtain ⟨h1, h2, h3⟩ := hE
    cases h4 : s.data.toList[aq + 1]? with
    | none => exact field38_n P s hs a f w h ha hf o q aq HTOK HAQ hq1 hq2 (Lib.hid h1) (Lib.hid h2) (Lib.hid h3) (aq + 1) (Lib.hid rfl) (Lib.hid h4)
    | some d => exact field38_y P s hs a f w h ha hf o q aq HTOK HAQ hq1 hq2 (Lib.hid h1) (Lib.hid h2) (Lib.hid h3) (aq + 1) (Lib.hid rfl) d (Lib.hid h4)
  · exact field38_e P s hs a f w h ha hf o q aq HTOK HAQ hq1 hq2 (Lib.hid hE)
theorem tagC (P : Nat) (s : ByteArray) (hs : s.size ≤ 4000) (a p f : Nat) (hp : p = 1 ∨ p = 2) (w : World) (h : SD w P s a p f) (ha : a ≤ s.size) (hf : f ≤ a) :
    Calls Tryz.prog 37 #[.pointer (some ⟨P, 0, none⟩)] w (TgOut P s (dm.tagM s.data.toList ⟨a, p, f⟩) w) := by
  rcases hp with rfl | rfl
  · exact tag37 P s hs a f w h ha hf
  · exact tag37n P s hs a f w h ha hf
theorem fieldC (P : Nat) (s : ByteArray) (hs : s.size ≤ 4000) (a p f : Nat) (hp : p = 2 ∨ p = 3 ∨ p = 5) (w : World) (h : SD w P s a p f) (ha : a ≤ s.size) (hf : f ≤ a) :
    Calls Tryz.prog 38 #[.pointer (some ⟨P, 0, none⟩)] w (FdOut P s (dm.fieldM s.data.toList ⟨a, p, f⟩) w) := by
  rcases hp with rfl | rfl | rfl
  · exact field38 P s hs a f w h ha hf
  · exact field38n3 P s hs a f w h ha hf
  · exact field38n5 P s hs a f w h ha hf
theorem timeC (P : Nat) (s : ByteArray) (hs : s.size ≤ 4000) (a p f : Nat) (hp : p = 3 ∨ p = 5) (w : World) (h : SD w P s a p f) (ha : a ≤ s.size) (hf : f ≤ a) :
    Calls Tryz.prog 39 #[.pointer (some ⟨P, 0, none⟩)] w (TmOut P s (dm.timeM s.data.toList ⟨a, p, f⟩) w) := by
  rcases hp with rfl | rfl
  · exact time39 P s hs a f w h ha hf
  · exact time39n P s hs a f w h ha hf
theorem nextC (P : Nat) (s : ByteArray) (hs : s.size ≤ 4000) (a p f : Nat) (hp : p = 5 ∨ p = 4) (w : World) (h : SD w P s a p f) (ha : a ≤ s.size) :
    Calls Tryz.prog 18 #[.pointer (some ⟨P, 0, none⟩)] w (NxOut P s ⟨a, p, f⟩ w) := by
  rcases hp with rfl | rfl
  · exact next18_5 P s hs a f w h ha
  · exact next18_4 P s hs a f w h ha
end Go.Proofs.YtlcbcgillekphaaGreatDoor.sd
namespace Go.Proofs.YtlcbcgillekphaaGreatDoor.dm
open Go.RowKit Mem
set_option linter.unusedVariables false
set_option linter.unusedSimpArgs false

section
variable {T : List UInt8}
theorem tok_hi (k : Nat) (a : Nat) (h : a ≤ T.length) : a + (tok k (T.drop a)).2 ≤ T.length := by
  have := tok_le k (T.drop a)
  rw [List.length_drop] at this
  omega
theorem run_hi (p : UInt8 → Bool) (a : Nat) (h : a ≤ T.length) : a + runN p (T.drop a) ≤ T.length := by
  have := runN_le p (T.drop a)
  rw [List.length_drop] at this
  omega
theorem get_hi {a : Nat} {c : UInt8} (h : T[a]? = some c) : a + 1 ≤ T.length := by
  rcases Nat.lt_or_ge a T.length with hh | hh
  · exact hh
  · rw [List.getElem?_eq_none hh] at h; cases h
theorem eol_hi {a n : Nat} (h : eol (T.drop a) = some n) (ha : a ≤ T.length) : a + n ≤ T.length := by
  have := sd.eol_le h
  rw [List.length_drop] at this
  omega
theorem behind_hi {m m' : M} {o : Option Nat} (hm : m.at_ ≤ T.length) (h : behindM T m = (o, m')) : m'.at_ ≤ T.length := by
  unfold behindM at h
  by_cases h1 : T[m.at_]? = some 44
  · have h2 := get_hi h1
    simp only [h1, if_true] at h
    cases h3 : T[m.at_ + 1]? with
    | none => simp only [h3] at h; cases h; exact h2
    | some c =>
      simp only [h3] at h
      split at h <;> (cases h; exact h2)
  · simp only [h1, if_false] at h
    cases h; exact hm
theorem flt_hi {α : Type} {m m' : M} {r : Res α} {i : Nat} (hm : m.at_ ≤ T.length) (h : flt T m i = (r, m')) : m'.at_ ≤ T.length := by
  have := (flt_inj h).2
  rw [this]
  exact hm
theorem name_hi {m m' : M} {r : Res (List UInt8)} (hm : m.at_ ≤ T.length) (h : nameM T m = (r, m')) : m'.at_ ≤ T.length := by
  have h0 := tok_hi (T := T) 0 m.at_ hm
  unfold nameM at h
  simp only at h
  split at h
  · exact flt_hi (by exact h0) h
  split at h
  · exact flt_hi (by exact h0) h
  cases hb : behindM T ⟨m.at_ + (tok 0 (T.drop m.at_)).2, m.part, m.from_⟩ with
  | mk o m2 =>
    have h2 := behind_hi (by exact h0) hb
    rw [hb] at h
    cases o with
    | none => simp only at h; cases h; exact h2
    | some i => exact flt_hi h2 h
theorem tag_hi {m m' : M} {r : Res (List UInt8 × List UInt8)} (hm : m.at_ ≤ T.length) (h : tagM T m = (r, m')) : m'.at_ ≤ T.length := by
  have h0 := tok_hi (T := T) 1 m.at_ hm
  unfold tagM at h
  split at h
  · cases h; exact hm
  split at h
  · cases h; exact run_hi _ _ hm
  simp only at h
  split at h
  · exact flt_hi (by exact h0) h
  split at h
  · exact flt_hi (by exact h0) h
  rename_i h61
  have h61' : T[m.at_ + (tok 1 (T.drop m.at_)).2]? = some 61 := by
    by_cases hh : T[m.at_ + (tok 1 (T.drop m.at_)).2]? = some 61
    · exact hh
    · exact absurd (.inr hh) h61
  have h1 := get_hi h61'
  have h2 := tok_hi (T := T) 2 _ h1
  split at h
  · exact flt_hi (by exact h2) h
  split at h
  · exact flt_hi (by exact h2) h
  split at h
  · cases h; exact h2
  cases hb : behindM T ⟨m.at_ + (tok 1 (T.drop m.at_)).2 + 1 + (tok 2 (T.drop (m.at_ + (tok 1 (T.drop m.at_)).2 + 1))).2, m.part, m.from_⟩ with
  | mk o m2 =>
    have h3 := behind_hi (by exact h2) hb
    rw [hb] at h
    cases o with
    | none => simp only at h; cases h; exact h3
    | some i => exact flt_hi h3 h
theorem after_hi {m m' : M} {o : Option Nat} (hm : m.at_ ≤ T.length) (h : afterM T m = (o, m')) : m'.at_ ≤ T.length := by
  unfold afterM at h
  cases h1 : T[m.at_]? with
  | none => rw [h1] at h; cases h; exact hm
  | some c =>
    rw [h1] at h
    have h2 := get_hi h1
    simp only at h
    split at h
    · cases h; exact h2
    split at h
    · cases h; exact hm
    have h3 := run_hi (T := T) (inS 0) m.at_ hm
    cases h4 : eol (T.drop (m.at_ + runN (inS 0) (T.drop m.at_))) with
    | none => rw [h4] at h; cases h; exact h3
    | some n => rw [h4] at h; cases h; exact eol_hi h4 h3
theorem value_hi {m m' : M} {r : Nat ⊕ (Nat × List UInt8)} (hm : m.at_ ≤ T.length) (h : valueM T m = (r, m')) : m'.at_ ≤ T.length := by
  unfold valueM at h
  cases h1 : T[m.at_]? with
  | none => rw [h1] at h; cases h; exact hm
  | some c =>
    rw [h1] at h
    have h2 := get_hi h1
    have h3 := tok_hi (T := T) 4 _ h2
    have h4 := run_hi (T := T) (inS 9) m.at_ hm
    simp only at h
    split at h
    · split at h
      · cases h; exact h3
      split at h
      · cases h; exact h3
      · rename_i h5
        cases h
        simp only at h5 ⊢
        omega
    · split at h
      · cases h; exact h4
      split at h
      · split at h
        · cases h; exact h4
        split at h
        · cases h; exact h4
        · cases h; exact h4
      · cases h; exact hm
theorem field_hi {m m' : M} {r : Res (List UInt8 × Nat × List UInt8)} (hm : m.at_ ≤ T.length) (h : fieldM T m = (r, m')) : m'.at_ ≤ T.length := by
  have h0 := tok_hi (T := T) 3 m.at_ hm
  unfold fieldM at h
  split at h
  · cases h; exact hm
  simp only at h
  split at h
  · exact flt_hi (by exact h0) h
  split at h
  · exact flt_hi (by exact h0) h
  split at h
  · exact flt_hi (by exact h0) h
  rename_i h61
  have h1 := get_hi (Decidable.of_not_not h61)
  cases hv : valueM T ⟨m.at_ + (tok 3 (T.drop m.at_)).2 + 1, m.part, m.from_⟩ with
  | mk o m2 =>
    have h2 := value_hi (by exact h1) hv
    rw [hv] at h
    cases o with
    | inl i => exact flt_hi h2 h
    | inr p =>
      obtain ⟨kd, u⟩ := p
      simp only at h
      cases ha : afterM T m2 with
      | mk o3 m3 =>
        have h3 := after_hi h2 ha
        rw [ha] at h
        cases o3 with
        | none => cases h; exact h3
        | some i => exact flt_hi h3 h
theorem time_hi {m m' : M} {r : Res (List UInt8)} (hm : m.at_ ≤ T.length) (h : timeM T m = (r, m')) : m'.at_ ≤ T.length := by
  have h0 := run_hi (T := T) (inS 10) m.at_ hm
  unfold timeM at h
  split at h
  · cases h; exact hm
  simp only at h
  cases h1 : T[m.at_ + runN (inS 10) (T.drop m.at_)]? with
  | none => rw [h1] at h; cases h; exact h0
  | some c =>
    rw [h1] at h
    simp only at h
    split at h
    · exact flt_hi (by exact run_hi _ _ h0) h
    have h3 := run_hi (T := T) (inS 0) _ h0
    cases h4 : eol (T.drop (m.at_ + runN (inS 10) (T.drop m.at_) + runN (inS 0) (T.drop (m.at_ + runN (inS 10) (T.drop m.at_))))) with
    | none => rw [h4] at h; exact flt_hi (by exact run_hi _ _ h3) h
    | some n => rw [h4] at h; cases h; exact eol_hi h4 h3
end
end Go.Proofs.YtlcbcgillekphaaGreatDoor.dm
namespace Go.Proofs.YtlcbcgillekphaaGreatDoor.sd
open Go.RowKit Mem rw ent
set_option linter.unusedVariables false
set_option linter.unusedSimpArgs false

/-- Where lEntry stands: the decoder at P, the entry's cells at E, its tags' and fields' rows. -/
structure LS (w0 : World) (P : Nat) (s : ByteArray) (E : Nat) (cs : List Value) (tags : List (List UInt8 × List UInt8)) (fields : List (List UInt8 × Nat × List UInt8)) (tv fv : Value) (a p f : Nat) (w : World) : Prop where
  at_ : At w0 P s a p f w
  r : Rw w E cs 41
  rows : ERows w w0.heap.size tags fields tv fv
  pw : P < w0.heap.size
  ew : w0.heap.size ≤ E
section
variable {w0 w : World} {P : Nat} {s : ByteArray} {E : Nat} {cs : List Value} {tags : List (List UInt8 × List UInt8)} {fields : List (List UInt8 × Nat × List UInt8)} {tv fv : Value} {a p f : Nat}
theorem LS.town (h : LS w0 P s E cs tags fields tv fv a p f w) (k : Nat) (e : tv.ownBlock = some k) : w0.heap.size ≤ k ∧ k < w.heap.size ∧ k ≠ E := by
  obtain ⟨h1, h2, cur, hc⟩ := own_base h.rows.tags k e
  exact ⟨h1, h2, ne_type hc h.r (by decide)⟩
theorem LS.fown (h : LS w0 P s E cs tags fields tv fv a p f w) (k : Nat) (e : fv.ownBlock = some k) : w0.heap.size ≤ k ∧ k < w.heap.size ∧ k ≠ E := by
  obtain ⟨h1, h2, cur, hc⟩ := own_base h.rows.fields k e
  exact ⟨h1, h2, ne_type hc h.r (by decide)⟩
theorem LS.call (h : LS w0 P s E cs tags fields tv fv a p f w) {a' p' f' : Nat} {w' : World} (k : At w P s a' p' f' w') : LS w0 P s E cs tags fields tv fv a' p' f' w' :=
  ⟨h.at_.trans k, Rw.but h.r k.but (by have := h.pw; have := h.ew; simp; omega), h.rows.but k.but (fun q e => by have := h.town q e; have := h.pw; simp; omega) (fun q e => by have := h.fown q e; have := h.pw; simp; omega), h.pw, h.ew⟩
theorem LS.quiet (h : LS w0 P s E cs tags fields tv fv a p f w) {w' : World} (hb : But [] w w') : LS w0 P s E cs tags fields tv fv a p f w' := h.call ((At.refl h.at_.sd).quiet hb)
theorem At.far {w0 w w' : World} {P : Nat} {s : ByteArray} {a p f : Nat} {S : List Nat} (h : At w0 P s a p f w) (hb : But S w w') (hp : P ∉ S) (hS : ∀ k ∈ S, w0.heap.size ≤ k) : At w0 P s a p f w' :=
  ⟨h.sd.but hb hp, h.but.join hb (fun _ e => e) (fun k hk hl => by have := hS k hk; omega)⟩
/-- A store into the entry. -/
theorem LS.put (h : LS w0 P s E cs tags fields tv fv a p f w) (j : Nat) (v : Value) : ∃ W, w.setCell ⟨E, j, none⟩ v = W ∧ LS w0 P s E (cs.set j v) tags fields tv fv a p f W := by
  have hb : But [E] w (w.setCell ⟨E, j, none⟩ v) := (But.refl [E] w).setCell (Or.inl (by simp)) v
  exact ⟨_, rfl, h.at_.far hb (by have := h.pw; have := h.ew; simp; omega) (fun k hk => by simp at hk; subst hk; exact h.ew), Rw.set h.r j v,
    h.rows.but hb (fun k e => by simpa using (h.town k e).2.2) (fun k e => by simpa using (h.fown k e).2.2), h.pw, h.ew⟩
/-- Behind an append. -/
theorem LS.grow (h : LS w0 P s E cs tags fields tv fv a p f w) {v0 tv' fv' : Value} {tags' : List (List UInt8 × List UInt8)} {fields' : List (List UInt8 × Nat × List UInt8)} {w2 : World} (hr : ERows w2 w0.heap.size tags' fields' tv' fv')
    (hv : v0 = tv ∨ v0 = fv) (hb : ∀ S : List Nat, (∀ k, v0.ownBlock = some k → k ∈ S) → But S w w2) : LS w0 P s E cs tags' fields' tv' fv' a p f w2 := by
  have hb0 := hb (match v0.ownBlock with | some k => [k] | none => []) (fun k hk => by rw [hk]; simp)
  have hS : ∀ k, k ∈ (match v0.ownBlock with | some k => [k] | none => []) → w0.heap.size ≤ k ∧ k ≠ E := fun k hk => by
    have e : v0.ownBlock = some k := by
      cases e : v0.ownBlock with
      | none => rw [e] at hk; simp at hk
      | some q => rw [e] at hk; simp at hk; rw [hk]
    rcases hv with rfl | rfl
    · exact ⟨(h.town k e).1, (h.town k e).2.2⟩
    · exact ⟨(h.fown k e).1, (h.fown k e).2.2⟩
  exact ⟨h.at_.far hb0 (fun hk => by have := (hS _ hk).1; have := h.pw; omega) (fun k hk => (hS k hk).1), Rw.but h.r hb0 (fun hk => (hS _ hk).2 rfl), hr, h.pw, h.ew⟩
theorem LS.four (h : LS w0 P s E cs tags fields tv fv a p f w) (v0 v1 v2 v3 : Value) : ∃ W, (((w.setCell ⟨E, 5, none⟩ v0).setCell ⟨E, 6, none⟩ v1).setCell ⟨E, 7, none⟩ v2).setCell ⟨E, 8, none⟩ v3 = W ∧ LS w0 P s E ((((cs.set 5 v0).set 6 v1).set 7 v2).set 8 v3) tags fields tv fv a p f W := by
  obtain ⟨W0, e0, h0⟩ := h.put 5 v0
  obtain ⟨W1, e1, h1⟩ := h0.put 6 v1
  obtain ⟨W2, e2, h2⟩ := h1.put 7 v2
  obtain ⟨W3, e3, h3⟩ := h2.put 8 v3
  exact ⟨W3, by rw [e0, e1, e2, e3], h3⟩
theorem LS.ten {u0 u1 u2 u3 u4 u5 u6 u7 u8 u9 : Value} (h : LS w0 P s E [u0, u1, u2, u3, u4, u5, u6, u7, u8, u9] tags fields tv fv a p f w) (v0 v1 v2 v3 v4 v5 v6 v7 v8 v9 : Value) :
    ∃ W, (((((((((w.setCell ⟨E, 0, none⟩ v0).setCell ⟨E, 1, none⟩ v1).setCell ⟨E, 2, none⟩ v2).setCell ⟨E, 3, none⟩ v3).setCell ⟨E, 4, none⟩ v4).setCell ⟨E, 5, none⟩ v5).setCell ⟨E, 6, none⟩ v6).setCell ⟨E, 7, none⟩ v7).setCell ⟨E, 8, none⟩ v8).setCell ⟨E, 9, none⟩ v9 = W ∧ LS w0 P s E [v0, v1, v2, v3, v4, v5, v6, v7, v8, v9] tags fields tv fv a p f W := by
  obtain ⟨W0, e0, h0⟩ := h.put 0 v0
  obtain ⟨W1, e1, h1⟩ := h0.put 1 v1
  obtain ⟨W2, e2, h2⟩ := h1.put 2 v2
  obtain ⟨W3, e3, h3⟩ := h2.put 3 v3
  obtain ⟨W4, e4, h4⟩ := h3.put 4 v4
  obtain ⟨W5, e5, h5⟩ := h4.put 5 v5
  obtain ⟨W6, e6, h6⟩ := h5.put 6 v6
  obtain ⟨W7, e7, h7⟩ := h6.put 7 v7
  obtain ⟨W8, e8, h8⟩ := h7.put 8 v8
  obtain ⟨W9, e9, h9⟩ := h8.put 9 v9
  exact ⟨W9, by rw [e0, e1, e2, e3, e4, e5, e6, e7, e8, e9], h9⟩
/-- With two temporaries: a row u at B3, a fault q at B5. -/
structure LT (w0 : World) (P : Nat) (s : ByteArray) (E : Nat) (cs : List Value) (tags : List (List UInt8 × List UInt8)) (fields : List (List UInt8 × Nat × List UInt8)) (tv fv : Value) (a p f : Nat) (B3 B5 : Nat) (u q : List Value) (T : TypeId) (w : World) : Prop where
  ls : LS w0 P s E cs tags fields tv fv a p f w
  r3 : Rw w B3 u T
  r5 : Rw w B5 q 39
  b3 : w0.heap.size ≤ B3
  b5 : w0.heap.size ≤ B5
  ne : B3 ≠ B5
  e3 : B3 ≠ E
  e5 : B5 ≠ E
  t3 : ∀ k, tv.ownBlock = some k → k ≠ B3 ∧ k ≠ B5
  f3 : ∀ k, fv.ownBlock = some k → k ≠ B3 ∧ k ≠ B5
theorem LT.new (h : LS w0 P s E cs tags fields tv fv a p f w) (u : List Value) (T : TypeId) :
    ∃ W, (w.alloc (.cells u.toArray T)).alloc (.cells #[.bool false, .int .i64 0, .int .i64 0, .bool false] 39) = W ∧ LT w0 P s E cs tags fields tv fv a p f w.heap.size (w.heap.size + 1) u [.bool false, .int .i64 0, .int .i64 0, .bool false] T W := by
  have hX := Rw.new w u T
  have hs1 : (w.alloc (.cells u.toArray T)).heap.size = w.heap.size + 1 := alloc_size _ _
  have hR := Rw.new (w.alloc (.cells u.toArray T)) [.bool false, .int .i64 0, .int .i64 0, .bool false] 39
  rw [hs1] at hR
  have hE := Rw.lt h.r
  have hw := h.at_.but.size
  exact ⟨_, rfl, h.quiet (((But.refl [] w).alloc _).alloc _), Rw.but hX ((But.refl [] _).alloc _) (by simp), hR, hw, by omega, by omega, by omega, by omega, fun k e => by have := (h.town k e).2.1; omega, fun k e => by have := (h.fown k e).2.1; omega⟩
variable {B3 B5 : Nat} {u q : List Value} {T : TypeId}
theorem LT.put3 (h : LT w0 P s E cs tags fields tv fv a p f B3 B5 u q T w) (j : Nat) (v : Value) : ∃ W, w.setCell ⟨B3, j, none⟩ v = W ∧ LT w0 P s E cs tags fields tv fv a p f B3 B5 (u.set j v) q T W := by
  have hb : But [B3] w (w.setCell ⟨B3, j, none⟩ v) := (But.refl [B3] w).setCell (Or.inl (by simp)) v
  refine ⟨_, rfl, ⟨h.ls.at_.far hb (by have := h.ls.pw; have := h.b3; simp; omega) (fun k hk => by simp at hk; subst hk; exact h.b3), Rw.but h.ls.r hb (by simpa using h.e3.symm), h.ls.rows.but hb (fun k e => by simpa using (h.t3 k e).1) (fun k e => by simpa using (h.f3 k e).1), h.ls.pw, h.ls.ew⟩, Rw.set h.r3 j v, Rw.but h.r5 hb (by simpa using h.ne.symm), h.b3, h.b5, h.ne, h.e3, h.e5, h.t3, h.f3⟩
theorem LT.put5 (h : LT w0 P s E cs tags fields tv fv a p f B3 B5 u q T w) (j : Nat) (v : Value) : ∃ W, w.setCell ⟨B5, j, none⟩ v = W ∧ LT w0 P s E cs tags fields tv fv a p f B3 B5 u (q.set j v) T W := by
  have hb : But [B5] w (w.setCell ⟨B5, j, none⟩ v) := (But.refl [B5] w).setCell (Or.inl (by simp)) v
  refine ⟨_, rfl, ⟨h.ls.at_.far hb (by have := h.ls.pw; have := h.b5; simp; omega) (fun k hk => by simp at hk; subst hk; exact h.b5), Rw.but h.ls.r hb (by simpa using h.e5.symm), h.ls.rows.but hb (fun k e => by simpa using (h.t3 k e).2) (fun k e => by simpa using (h.f3 k e).2), h.ls.pw, h.ls.ew⟩, Rw.but h.r3 hb (by simpa using h.ne), Rw.set h.r5 j v, h.b3, h.b5, h.ne, h.e3, h.e5, h.t3, h.f3⟩
theorem LT.four (h : LT w0 P s E cs tags fields tv fv a p f B3 B5 u q T w) (hq : q.length = 4) (v0 v1 v2 v3 : Value) : ∃ W, (((w.setCell ⟨B5, 0, none⟩ v0).setCell ⟨B5, 1, none⟩ v1).setCell ⟨B5, 2, none⟩ v2).setCell ⟨B5, 3, none⟩ v3 = W ∧ LT w0 P s E cs tags fields tv fv a p f B3 B5 u [v0, v1, v2, v3] T W := by
  obtain ⟨u0, u1, u2, u3, rfl⟩ : ∃ u0 u1 u2 u3, q = [u0, u1, u2, u3] := by
    match q, hq with
    | [a, b, c, d], _ => exact ⟨a, b, c, d, rfl⟩
  obtain ⟨W0, e0, h0⟩ := h.put5 0 v0
  obtain ⟨W1, e1, h1⟩ := h0.put5 1 v1
  obtain ⟨W2, e2, h2⟩ := h1.put5 2 v2
  obtain ⟨W3, e3, h3⟩ := h2.put5 3 v3
  exact ⟨W3, by rw [e0, e1, e2, e3], h3⟩
theorem LT.two {u0 u1 : Value} (h : LT w0 P s E cs tags fields tv fv a p f B3 B5 [u0, u1] q T w) (v0 v1 : Value) : ∃ W, (w.setCell ⟨B3, 0, none⟩ v0).setCell ⟨B3, 1, none⟩ v1 = W ∧ LT w0 P s E cs tags fields tv fv a p f B3 B5 [v0, v1] q T W := by
  obtain ⟨W0, e0, h0⟩ := h.put3 0 v0
  obtain ⟨W1, e1, h1⟩ := h0.put3 1 v1
  exact ⟨W1, by rw [e0, e1], h1⟩
theorem LT.three {u0 u1 u2 : Value} (h : LT w0 P s E cs tags fields tv fv a p f B3 B5 [u0, u1, u2] q T w) (v0 v1 v2 : Value) : ∃ W, ((w.setCell ⟨B3, 0, none⟩ v0).setCell ⟨B3, 1, none⟩ v1).setCell ⟨B3, 2, none⟩ v2 = W ∧ LT w0 P s E cs tags fields tv fv a p f B3 B5 [v0, v1, v2] q T W := by
  obtain ⟨W0, e0, h0⟩ := h.put3 0 v0
  obtain ⟨W1, e1, h1⟩ := h0.put3 1 v1
  obtain ⟨W2, e2, h2⟩ := h1.put3 2 v2
  exact ⟨W2, by rw [e0, e1, e2], h2⟩
end
end Go.Proofs.YtlcbcgillekphaaGreatDoor.sd
