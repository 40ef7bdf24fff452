/-
  Proved: a plain model of a decoder of lines over a list of bytes, and its plain laws: no program in sight.
  Conditions: each law's own.
-/
import Derived.Test.YtlcbcgillekphaaDoorUtf
namespace Go.Proofs.YtlcbcgillekphaaDoor.dm
open Go.RowKit Mem
set_option linter.unusedVariables false

def odd (c : UInt8) : Bool := decide (c.toNat < 32) || c.toNat == 127
def white (c : UInt8) : Bool := c.toNat == 32 || c.toNat == 13 || c.toNat == 10
/-- The sets of bytes. -/
def inS : Nat → UInt8 → Bool
  | 0, c => c.toNat == 32
  | 1, c => white c
  | 2, c => !(c.toNat == 44) && !(c.toNat == 61) && !(c.toNat == 32) && !odd c
  | 3, c => odd c
  | 4, c => c.toNat == 13 || c.toNat == 10
  | 5, c => !(c.toNat == 44) && !(c.toNat == 32) && !odd c
  | 6, c => !(c.toNat == 44) && !(c.toNat == 61) && !(c.toNat == 32) && !odd c
  | 7, c => !(c.toNat == 44) && !(c.toNat == 61) && !(c.toNat == 32) && !odd c
  | 8, c => !(c.toNat == 34)
  | 9, c => !(c.toNat == 44) && !white c
  | 10, c => c.toNat == 45 || (decide (48 ≤ c.toNat) && decide (c.toNat ≤ 57))
  | 11, c => !odd c
  | 12, c => !(c.toNat == 13) && !(c.toNat == 10)
  | _, c => !(c.toNat == 10)
/-- The set of a token. -/
def setOf : Nat → Nat
  | 0 => 5
  | 1 => 2
  | 2 => 6
  | 3 => 7
  | _ => 8
/-- What a backslash and a byte stand for; 0: nothing. -/
def rv : Nat → UInt8 → UInt8
  | 0, c => if c = 32 ∨ c = 44 then c else 0
  | 1, c => if c = 44 ∨ c = 61 ∨ c = 32 then c else 0
  | 2, c => if c = 44 ∨ c = 61 ∨ c = 32 then c else 0
  | 3, c => if c = 44 ∨ c = 61 ∨ c = 32 then c else 0
  | _, c => if c = 110 then 10 else if c = 114 then 13 else if c = 116 then 9 else if c = 92 ∨ c = 34 then c else 0
/-- A token with escapes: what it says, and how many bytes it has. -/
def tokL (p : UInt8 → Bool) (r : UInt8 → UInt8) : List UInt8 → List UInt8 × Nat
  | [] => ([], 0)
  | [c] => if c = 92 ∨ p c = true then ([c], 1) else ([], 0)
  | c :: d :: t =>
    if c = 92 then
      if r d = 0 then (c :: (tokL p r (d :: t)).1, (tokL p r (d :: t)).2 + 1) else (r d :: (tokL p r t).1, (tokL p r t).2 + 2)
    else if p c = true then (c :: (tokL p r (d :: t)).1, (tokL p r (d :: t)).2 + 1) else ([], 0)
def tok (k : Nat) (l : List UInt8) : List UInt8 × Nat := tokL (inS (setOf k)) (rv k) l
theorem tokL_le (p : UInt8 → Bool) (r : UInt8 → UInt8) : ∀ (n : Nat) (l : List UInt8), l.length ≤ n → (tokL p r l).2 ≤ l.length ∧ (tokL p r l).1.length ≤ (tokL p r l).2 ∧ ((tokL p r l).2 ≠ 0 → (tokL p r l).1 ≠ [])
  | 0, l, h => by
    obtain rfl : l = [] := List.eq_nil_of_length_eq_zero (by omega)
    simp [tokL]
  | n + 1, [], h => by simp [tokL]
  | n + 1, [c], h => by
    unfold tokL
    split <;> simp
  | n + 1, c :: d :: t, h => by
    simp only [List.length_cons] at h
    have h1 := tokL_le p r n (d :: t) (by simp; omega)
    have h2 := tokL_le p r n t (by omega)
    simp only [List.length_cons] at h1
    unfold tokL
    simp only [List.length_cons]
    repeat' split
    all_goals simp
    all_goals omega
theorem tok_le (k : Nat) (l : List UInt8) : (tok k l).2 ≤ l.length := (tokL_le _ _ _ l (Nat.le_refl _)).1
theorem tok_len (k : Nat) (l : List UInt8) : (tok k l).1.length ≤ (tok k l).2 := (tokL_le _ _ _ l (Nat.le_refl _)).2.1
theorem tok_some (k : Nat) (l : List UInt8) (h : (tok k l).2 ≠ 0) : (tok k l).1 ≠ [] := (tokL_le _ _ _ l (Nat.le_refl _)).2.2 h
/-- Behind p bytes of the tokens at a: what was taken is o. -/
def Tk (P : UInt8 → Bool) (r : UInt8 → UInt8) (T : List UInt8) (a p : Nat) (o : List UInt8) : Prop :=
  a ≤ p ∧ p ≤ T.length ∧ (tokL P r (T.drop a)).1 = o ++ (tokL P r (T.drop p)).1 ∧ (tokL P r (T.drop a)).2 = p - a + (tokL P r (T.drop p)).2
theorem Tk.start (P : UInt8 → Bool) (r : UInt8 → UInt8) (T : List UInt8) (a : Nat) (h : a ≤ T.length) : Tk P r T a a [] := ⟨Nat.le_refl _, h, by simp, by simp⟩
theorem drop_cons (T : List UInt8) (p : Nat) (h : p < T.length) : T.drop p = T[p] :: T.drop (p + 1) := List.drop_eq_getElem_cons h
theorem Tk.end {P : UInt8 → Bool} {r : UInt8 → UInt8} {T : List UInt8} {a p : Nat} {o : List UInt8} (h : Tk P r T a p o) (he : p = T.length) : tokL P r (T.drop a) = (o, p - a) := by
  obtain ⟨h1, h2, h3, h4⟩ := h
  have e : T.drop p = [] := List.drop_eq_nil_of_le (by omega)
  rw [e] at h3 h4
  simp [tokL] at h3 h4
  exact Prod.ext h3 h4
theorem Tk.stop {P : UInt8 → Bool} {r : UInt8 → UInt8} {T : List UInt8} {a p : Nat} {o : List UInt8} (h : Tk P r T a p o) (hp : p < T.length) (hc : T[p] ≠ 92) (hs : P T[p] = false) : tokL P r (T.drop a) = (o, p - a) := by
  obtain ⟨h1, h2, h3, h4⟩ := h
  have e : tokL P r (T.drop p) = ([], 0) := by
    rw [drop_cons T p hp]
    cases T.drop (p + 1) with
    | nil => simp [tokL, hc, hs]
    | cons d t => simp [tokL, hc, hs]
  rw [e] at h3 h4
  simp at h3 h4
  exact Prod.ext h3 h4
theorem Tk.one {P : UInt8 → Bool} {r : UInt8 → UInt8} {T : List UInt8} {a p : Nat} {o : List UInt8} (h : Tk P r T a p o) (hp : p < T.length)
    (hc : (T[p] ≠ 92 ∧ P T[p] = true) ∨ (T[p] = 92 ∧ (p + 1 = T.length ∨ ∃ h1 : p + 1 < T.length, r T[p + 1] = 0))) : Tk P r T a (p + 1) (o ++ [T[p]]) := by
  obtain ⟨h1, h2, h3, h4⟩ := h
  have e : tokL P r (T.drop p) = (T[p] :: (tokL P r (T.drop (p + 1))).1, (tokL P r (T.drop (p + 1))).2 + 1) := by
    rw [drop_cons T p hp]
    by_cases hq : p + 1 < T.length
    · have hd := drop_cons T (p + 1) hq
      rw [hd]
      rcases hc with ⟨c1, c2⟩ | ⟨c1, c2⟩
      · simp [tokL, c1, c2]
      · rcases c2 with c2 | ⟨_, c2⟩
        · omega
        · simp [tokL, c1, c2]
    · rw [List.drop_eq_nil_of_le (by omega)]
      rcases hc with ⟨c1, c2⟩ | ⟨c1, c2⟩
      · simp [tokL, c1, c2]
      · simp [tokL, c1]
  rw [e] at h3 h4
  refine ⟨by omega, by omega, by rw [h3]; simp, by rw [h4]; simp; omega⟩
theorem Tk.two {P : UInt8 → Bool} {r : UInt8 → UInt8} {T : List UInt8} {a p : Nat} {o : List UInt8} (h : Tk P r T a p o) (hp : p + 1 < T.length) (hc : T[p] = 92) (hr : r T[p + 1] ≠ 0) : Tk P r T a (p + 2) (o ++ [r T[p + 1]]) := by
  obtain ⟨h1, h2, h3, h4⟩ := h
  have e : tokL P r (T.drop p) = (r T[p + 1] :: (tokL P r (T.drop (p + 2))).1, (tokL P r (T.drop (p + 2))).2 + 2) := by
    rw [drop_cons T p (by omega), drop_cons T (p + 1) hp]
    simp [tokL, hc, hr]
  rw [e] at h3 h4
  refine ⟨by omega, by omega, by rw [h3]; simp, by rw [h4]; simp; omega⟩

/-- How many bytes of a set stand ahead. -/
def runN (p : UInt8 → Bool) (l : List UInt8) : Nat := (l.takeWhile p).length
theorem runN_le (p : UInt8 → Bool) (l : List UInt8) : runN p l ≤ l.length := by
  unfold runN
  exact (List.takeWhile_prefix p).length_le
def breaks (l : List UInt8) : Nat := l.countP (· == 10)
theorem breaks_app (a b : List UInt8) : breaks (a ++ b) = breaks a + breaks b := by simp [breaks]
theorem breaks_le (l : List UInt8) : breaks l ≤ l.length := List.countP_le_length
theorem snoc_ind {P : List UInt8 → Prop} (h0 : P []) (hs : ∀ l c, P l → P (l ++ [c])) : ∀ (n : Nat) (l : List UInt8), l.length = n → P l
  | 0, l, h => by
    obtain rfl : l = [] := List.eq_nil_of_length_eq_zero h
    exact h0
  | n + 1, l, h => by
    have hne : l ≠ [] := by intro e; subst e; simp at h
    have := hs l.dropLast (l.getLast hne) (snoc_ind h0 hs n _ (by rw [List.length_dropLast]; omega))
    rwa [List.dropLast_concat_getLast] at this
/-- How many bytes stand behind the last LF. -/
def colF (l : List UInt8) : Nat := l.foldl (fun n c => if c = 10 then 0 else n + 1) 0
theorem colF_snoc (l : List UInt8) (c : UInt8) : colF (l ++ [c]) = if c = 10 then 0 else colF l + 1 := by simp [colF]
theorem colF_le (l : List UInt8) : colF l ≤ l.length := by
  refine snoc_ind (P := fun l => colF l ≤ l.length) (by simp [colF]) (fun l c ih => ?_) _ l rfl
  rw [colF_snoc]; simp; split <;> omega
theorem colF_none (l : List UInt8) (h : ∀ c ∈ l, c ≠ 10) : colF l = l.length := by
  refine snoc_ind (P := fun l => (∀ c ∈ l, c ≠ 10) → colF l = l.length) (by simp [colF]) (fun l c ih h => ?_) _ l rfl h
  rw [colF_snoc, if_neg (h c (by simp)), ih (fun x hx => h x (by simp [hx]))]; simp
theorem colF_last (l m : List UInt8) (h : ∀ c ∈ m, c ≠ 10) : colF (l ++ 10 :: m) = m.length := by
  refine snoc_ind (P := fun m => (∀ c ∈ m, c ≠ 10) → colF (l ++ 10 :: m) = m.length) (fun _ => by rw [colF_snoc]; simp) (fun m c ih h => ?_) _ m rfl h
  rw [show l ++ 10 :: (m ++ [c]) = (l ++ 10 :: m) ++ [c] by simp, colF_snoc, if_neg (h c (by simp)), ih (fun x hx => h x (by simp [hx]))]; simp

/-- Where a decoder stands, the part that is due, where the entry begins. -/
structure M where
  at_ : Nat
  part : Nat
  from_ : Nat
/-- A fault's line and column. -/
def place (T : List UInt8) (from_ p : Nat) : Nat × Nat := (1 + breaks (T.take p), colF ((T.take p).drop from_) + 1)
def M.bad (m : M) : M := { m with part := if m.part = 5 then 5 else 4 }
inductive Res (α : Type) where
  | fault (line col : Nat)
  | none
  | some (a : α)
def flt {α : Type} (T : List UInt8) (m : M) (p : Nat) : Res α × M := (.fault (place T m.from_ p).1 (place T m.from_ p).2, m.bad)
/-- The end of a line: how many bytes it has, if it is one. -/
def eol (l : List UInt8) : Option Nat :=
  match l with
  | [] => some 0
  | c :: t => if c = 10 then some 1 else if c = 13 then (match t with
    | [] => some 1
    | d :: _ => if d = 10 then some 2 else none) else none
/-- Behind a comma. -/
def behindM (T : List UInt8) (m : M) : Option Nat × M :=
  if T[m.at_]? = some 44 then
    let m1 := { m with at_ := m.at_ + 1 }
    match T[m1.at_]? with
    | none => (some m1.at_, m1)
    | some c => if white c then (some m1.at_, m1) else (none, m1)
  else (none, m)
def nameM (T : List UInt8) (m : M) : Res (List UInt8) × M :=
  let t := tok 0 (T.drop m.at_)
  let m1 := { m with at_ := m.at_ + t.2 }
  if utf.V t.1 = false then flt T m1 m.at_
  else if t.1 = [] ∨ t.1.head? = some 35 then flt T m1 m.at_
  else match behindM T m1 with
    | (some p, m2) => flt T m2 p
    | (none, m2) => (.some t.1, { m2 with part := 1 })
def tagM (T : List UInt8) (m : M) : Res (List UInt8 × List UInt8) × M :=
  if m.part ≠ 1 then (.none, m)
  else if T[m.at_]? = some 32 then (.none, { m with at_ := m.at_ + runN (inS 0) (T.drop m.at_), part := 2 })
  else
    let k := tok 1 (T.drop m.at_)
    let m1 := { m with at_ := m.at_ + k.2 }
    if utf.V k.1 = false then flt T m1 m.at_
    else if k.1 = [] ∨ T[m1.at_]? ≠ some 61 then flt T m1 m.at_
    else
      let m2 := { m1 with at_ := m1.at_ + 1 }
      let v := tok 2 (T.drop m2.at_)
      let m3 := { m2 with at_ := m2.at_ + v.2 }
      if utf.V v.1 = false then flt T m3 m2.at_
      else if v.1 = [] then flt T m3 m2.at_
      else if T.length ≤ m3.at_ then (.some (k.1, v.1), { m3 with part := 2 })
      else match behindM T m3 with
        | (some p, m4) => flt T m4 p
        | (none, m4) => (.some (k.1, v.1), m4)
/-- Behind a field's value: where a fault is, or what is due. -/
def afterM (T : List UInt8) (m : M) : Option Nat × M :=
  match T[m.at_]? with
  | none => (none, { m with part := 5 })
  | some c =>
    if c = 44 then (none, { m with at_ := m.at_ + 1 })
    else if white c = false then (some m.at_, m)
    else
      let m1 := { m with at_ := m.at_ + runN (inS 0) (T.drop m.at_) }
      match eol (T.drop m1.at_) with
      | some n => (none, { m1 with at_ := m1.at_ + n, part := 5 })
      | none => (none, { m1 with part := 3 })
/-- A field's value: a fault's place, or its kind and bytes. -/
def valueM (T : List UInt8) (m : M) : (Nat ⊕ (Nat × List UInt8)) × M :=
  match T[m.at_]? with
  | none => (.inl m.at_, m)
  | some c =>
    if c = 34 then
      let m1 := { m with at_ := m.at_ + 1 }
      let t := tok 4 (T.drop m1.at_)
      let m2 := { m1 with at_ := m1.at_ + t.2 }
      if utf.V t.1 = false then (.inl m1.at_, m2)
      else if T.length ≤ m2.at_ then (.inl m.at_, m2)
      else (.inr (1, t.1), { m2 with at_ := m2.at_ + 1 })
    else
      let n := runN (inS 9) (T.drop m.at_)
      let raw := (T.drop m.at_).take n
      let m1 := { m with at_ := m.at_ + n }
      if c = 116 ∨ c = 84 ∨ c = 102 ∨ c = 70 then (.inr (5, raw), m1)
      else if c = 45 ∨ c = 46 ∨ (48 ≤ c.toNat ∧ c.toNat ≤ 57) then
        if raw.getLast? = some 105 then (.inr (2, raw.dropLast), m1)
        else if raw.getLast? = some 117 then (.inr (3, raw.dropLast), m1)
        else (.inr (4, raw), m1)
      else (.inl m.at_, m)
def fieldM (T : List UInt8) (m : M) : Res (List UInt8 × Nat × List UInt8) × M :=
  if m.part ≠ 2 then (.none, m)
  else
    let k := tok 3 (T.drop m.at_)
    let m1 := { m with at_ := m.at_ + k.2 }
    if utf.V k.1 = false then flt T m1 m.at_
    else if k.1 = [] then flt T m1 m.at_
    else if T[m1.at_]? ≠ some 61 then flt T m1 m1.at_
    else
      match valueM T { m1 with at_ := m1.at_ + 1 } with
      | (.inl p, m2) => flt T m2 p
      | (.inr (kind, raw), m2) =>
        match afterM T m2 with
        | (some p, m3) => flt T m3 p
        | (none, m3) => (.some (k.1, kind, raw), m3)
def timeM (T : List UInt8) (m : M) : Res (List UInt8) × M :=
  if m.part ≠ 3 then (.none, m)
  else
    let n := runN (inS 10) (T.drop m.at_)
    let s := (T.drop m.at_).take n
    let m1 := { m with at_ := m.at_ + n, part := if n = 0 then 5 else 3 }
    match T[m1.at_]? with
    | none => (.some s, { m1 with part := 5 })
    | some c =>
      if white c = false then flt T { m1 with at_ := m1.at_ + runN (inS 12) (T.drop m1.at_) } m.at_
      else
        let m2 := { m1 with at_ := m1.at_ + runN (inS 0) (T.drop m1.at_) }
        match eol (T.drop m2.at_) with
        | some q => (.some s, { m2 with at_ := m2.at_ + q, part := 5 })
        | none => flt T { m2 with at_ := m2.at_ + runN (inS 12) (T.drop m2.at_) } m2.at_
/-- How many bytes of blanks, empty lines and comments stand ahead. -/
def passed : Nat → List UInt8 → Nat
  | 0, _ => 0
  | f + 1, l =>
    let n := runN (inS 0) l
    let l1 := l.drop n
    match l1 with
    | [] => n
    | c :: _ =>
      if c = 35 then
        let q := runN (inS 11) l1
        match eol (l1.drop q) with
        | none => 0
        | some e => n + q + e + passed f (l1.drop (q + e))
      else match eol l1 with
        | none => n
        | some e => n + e + passed f (l1.drop e)
def nextM (T : List UInt8) (m : M) : M :=
  let a := if m.part = 5 then m.at_ else min (m.at_ + runN (inS 13) (T.drop m.at_) + 1) T.length
  let b := a + passed (T.length + 1) (T.drop a)
  ⟨b, 0, b⟩
structure En where
  name : List UInt8 := []
  tags : List (List UInt8 × List UInt8) := []
  fields : List (List UInt8 × Nat × List UInt8) := []
  time : List UInt8 := []
  fault : Option (Nat × Nat) := none
  at_ : Nat := 0
def tagsM (T : List UInt8) : Nat → M → List (List UInt8 × List UInt8) × Option (Nat × Nat) × M
  | 0, m => ([], none, m)
  | f + 1, m => match tagM T m with
    | (.none, m1) => ([], none, m1)
    | (.fault l c, m1) => ([], some (l, c), m1)
    | (.some p, m1) => (p :: (tagsM T f m1).1, (tagsM T f m1).2)
def fieldsM (T : List UInt8) : Nat → M → List (List UInt8 × Nat × List UInt8) × Option (Nat × Nat) × M
  | 0, m => ([], none, m)
  | f + 1, m => match fieldM T m with
    | (.none, m1) => ([], none, m1)
    | (.fault l c, m1) => ([], some (l, c), m1)
    | (.some p, m1) => (p :: (fieldsM T f m1).1, (fieldsM T f m1).2)
def entryM (T : List UInt8) (m : M) : En × M :=
  match nameM T m with
  | (.none, m1) => ({}, m1)
  | (.fault l c, m1) => ({ fault := some (l, c) }, m1)
  | (.some n, m1) =>
    let t := tagsM T (T.length + 1) m1
    match t.2.1 with
    | some f => ({ name := n, tags := t.1, fault := some f, at_ := 1 }, t.2.2)
    | none =>
      let g := fieldsM T (T.length + 1) t.2.2
      match g.2.1 with
      | some f => ({ name := n, tags := t.1, fields := g.1, fault := some f, at_ := 2 }, g.2.2)
      | none => match timeM T g.2.2 with
        | (.none, m4) => ({ name := n, tags := t.1, fields := g.1 }, m4)
        | (.fault l c, m4) => ({ name := n, tags := t.1, fields := g.1, fault := some (l, c), at_ := 3 }, m4)
        | (.some s, m4) => ({ name := n, tags := t.1, fields := g.1, time := s }, m4)
def entriesM (T : List UInt8) : Nat → M → List En
  | 0, _ => []
  | f + 1, m =>
    let m1 := nextM T m
    if m1.at_ < T.length then (entryM T m1).1 :: entriesM T f (entryM T m1).2 else []
end Go.Proofs.YtlcbcgillekphaaDoor.dm
