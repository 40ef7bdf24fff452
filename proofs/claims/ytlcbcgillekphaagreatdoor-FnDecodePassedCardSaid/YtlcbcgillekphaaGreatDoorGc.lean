/-
  Proved: plain laws on slices of structs that a call lays for itself (append of one element), and how an entry lies in memory · plain laws on slices of entries that a call lays for itself · plain laws on the parts and places of the plain decoder: no program in sight · plain laws: behind what was taken of a set, of empty lines, or as a token, there is no more of it · plain laws on how far the plain decoder goes on: no program in sight.
  Conditions: each law's own; a text of at most 4000 bytes where one is read.
-/
import Derived.Test.YtlcbcgillekphaaGreatDoorGa
import Derived.Deep.AppendLies
import Derived.Handy
namespace Go.Proofs.YtlcbcgillekphaaGreatDoor.ent
open Go.RowKit Mem rw
set_option linter.unusedVariables false
set_option linter.unusedSimpArgs false

def parts (i : TypeInfo) : Option (Nat × Nat × Bool) := i.zero.map fun z => (z.cells.size, i.size, decide (i.bytes ≤ 1000))
theorem inf_pair : (Tryz.prog.info? 71).bind parts = some (2, 2, true) := by kernel_rfl
theorem inf_field : (Tryz.prog.info? 76).bind parts = some (3, 3, true) := by kernel_rfl
theorem inf_entry : (Tryz.prog.info? 41).bind parts = some (10, 10, true) := by kernel_rfl
theorem app_row (t e : TypeId) (size : Nat) (hu : Tryz.prog.underlying t = some (.slice e)) (hinf : (Tryz.prog.info? e).bind parts = some (size, size, true)) (hsz : 0 < size)
    (w : World) (base : Nat) (v : Value) (n : Nat) (xs : List Value) (hown : w.ownsRow base e size v n xs) (hn : n ≤ 100000) (hb : base ≤ w.heap.size) (cs : List Value) (hcs : cs.length = size) (h1 : ∀ u ∈ cs, u.oneCell' = true) (ty : TypeId) :
    ∃ g cap w', (Builtin.append_ #[t, t] ty #[v, .slice (some ⟨w.heap.size, 0, none⟩) 1 1]).run Tryz.prog (w.alloc (.cells cs.toArray e)) = .ok (.slice (some ⟨g, 0, none⟩) (n + 1) cap) w' ∧
      w'.ownsRow base e size (.slice (some ⟨g, 0, none⟩) (n + 1) cap) (n + 1) (xs ++ cs) ∧ (∀ S : List Nat, (∀ k, v.ownBlock = some k → k ∈ S) → But S w w') ∧ (v.ownBlock = some g ∨ w.heap.size ≤ g) ∧ g < w'.heap.size := by
  cases hi : Tryz.prog.info? e with
  | none => rw [hi] at hinf; cases hinf
  | some i =>
    rw [hi] at hinf
    simp only [Option.bind_some, parts] at hinf
    cases hz : i.zero with
    | none => rw [hz] at hinf; cases hinf
    | some z =>
      rw [hz] at hinf
      simp only [Option.map_some, Option.some.injEq, Prod.mk.injEq, decide_eq_true_eq] at hinf
      obtain ⟨e1, e2, e3⟩ := hinf
      have ho := hown.alloc (.cells cs.toArray e)
      obtain ⟨g, cap, w', r1, r2, r3, r4, r5⟩ := run_append_lies (P := Tryz.prog) (w.alloc (.cells cs.toArray e)) t ty base e i z size i.bytes hu hi hz e2 rfl e1 hsz v n xs ho ⟨w.heap.size, 0, none⟩ 1 1 cs (by omega)
        (World.news_of_block (cs := cs.toArray) (t := e) (fr := (0, 0)) (heap_alloc_new w _)) h1 (by omega) (by unfold maxLen; omega) (by
          have : (n + 1) * i.bytes ≤ 100001 * 1000 := Nat.mul_le_mul (by omega) e3
          omega) (by simp; omega) _ rfl
      refine ⟨g, cap, w', r1, r2, fun S hS => ?_, ?_, r5⟩
      · have h0 : But S w (w.alloc (.cells cs.toArray e)) := (But.refl S w).alloc _
        exact h0.grown r3 (fun k hk => .inl (hS k hk))
      · rcases r4 with h | h
        · exact .inl h
        · exact .inr (by rw [h]; simp)
theorem own_but {w w' : World} {base : Nat} {e : TypeId} {size : Nat} {v : Value} {n : Nat} {xs : List Value} {S : List Nat} (h : w.ownsRow base e size v n xs) (hb : But S w w') (hn : ∀ k, v.ownBlock = some k → k ∉ S) : w'.ownsRow base e size v n xs := by
  refine ⟨h.1, ?_⟩
  rcases h.2 with h0 | ⟨g, cap, cur, hv, hB, hg, rest⟩
  · exact .inl h0
  · exact .inr ⟨g, cap, cur, hv, hB, hb.heapAt hg (hn g (by rw [hv]; rfl)), rest⟩
theorem own_base {w : World} {base : Nat} {e : TypeId} {size : Nat} {v : Value} {n : Nat} {xs : List Value} (h : w.ownsRow base e size v n xs) (k : Nat) (hk : v.ownBlock = some k) : base ≤ k ∧ k < w.heap.size ∧ ∃ cur, w.heap[k]? = some (.cells cur e (0, 0)) := by
  rcases h.2 with ⟨h0, _⟩ | ⟨g, cap, cur, hv, hB, hg, rest⟩
  · rw [h0] at hk; cases hk
  · rw [hv] at hk
    simp only [Value.ownBlock, Option.some.injEq] at hk
    subst hk
    exact ⟨hB, (Array.getElem?_eq_some_iff.1 hg).1, cur, hg⟩
theorem own_mono {w : World} {base base' : Nat} {e : TypeId} {size : Nat} {v : Value} {n : Nat} {xs : List Value} (h : w.ownsRow base e size v n xs) (hb : base' ≤ base) : w.ownsRow base' e size v n xs := by
  refine ⟨h.1, ?_⟩
  rcases h.2 with h0 | ⟨g, cap, cur, hv, hB, rest⟩
  · exact .inl h0
  · exact .inr ⟨g, cap, cur, hv, by omega, rest⟩
/-- The cells of such a row, one by one. -/
theorem own_at {w : World} {base : Nat} {e : TypeId} {size : Nat} {v : Value} {n : Nat} {xs : List Value} (h : w.ownsRow base e size v n xs) (hn : 0 < n) :
    ∃ g cap, v = .slice (some ⟨g, 0, none⟩) n cap ∧ base ≤ g ∧ g < w.heap.size ∧ n ≤ cap ∧ cap ≤ 9223372036854775807 ∧ ∀ j, j < n * size → w.cell? ⟨g, j, none⟩ = xs[j]? := by
  rcases h.2 with ⟨_, h0⟩ | ⟨g, cap, cur, hv, hb, hg, hc, hm, hs, ht⟩
  · omega
  · refine ⟨g, cap, hv, hb, (Array.getElem?_eq_some_iff.1 hg).1, hc, by unfold maxLen at hm; omega, fun j hj => ?_⟩
    rw [cell_of_row _ _ j _ _ _ hg, ← ht]
    simp [hj]
theorem own_form {w : World} {base : Nat} {e : TypeId} {size : Nat} {v : Value} {n : Nat} {xs : List Value} (h : w.ownsRow base e size v n xs) : ∃ a cap, v = .slice a n cap := by
  rcases h.2 with ⟨h0, h1⟩ | ⟨g, cap, cur, hv, _⟩
  · exact ⟨none, 0, by rw [h0, h1]⟩
  · exact ⟨_, _, hv⟩
def str (l : List UInt8) : Value := .string ⟨l.toArray⟩
def pairCells (l : List (List UInt8 × List UInt8)) : List Value := l.flatMap fun p => [str p.1, str p.2]
def fieldCells (l : List (List UInt8 × Nat × List UInt8)) : List Value := l.flatMap fun p => [str p.1, .int .i64 (p.2.1 : Int), str p.2.2]
def noF : Value := .agg #[.bool false, .int .i64 0, .int .i64 0, .bool false]
def flV : Option (Nat × Nat) → Value
  | none => noF
  | some q => .agg #[.bool true, .int .i64 (q.1 : Int), .int .i64 (q.2 : Int), .bool false]
def flC : Option (Nat × Nat) → List Value
  | none => [.bool false, .int .i64 0, .int .i64 0, .bool false]
  | some q => [.bool true, .int .i64 (q.1 : Int), .int .i64 (q.2 : Int), .bool false]
/-- An entry's cells, and its value. -/
def enC (E : dm.En) (tv fv : Value) : List Value := [str E.name, tv, fv, str E.time, .bool (!E.time.isEmpty)] ++ flC E.fault ++ [.int .i64 (E.at_ : Int)]
def enV (E : dm.En) (tv fv : Value) : Value := .agg (enC E tv fv).toArray
def zeroC : List Value := [str [], .slice none 0 0, .slice none 0 0, str [], .bool false, .bool false, .int .i64 0, .int .i64 0, .bool false, .int .i64 0]
/-- The tags and the fields of an entry lie in memory, from base on. -/
structure ERows (w : World) (base : Nat) (tags : List (List UInt8 × List UInt8)) (fields : List (List UInt8 × Nat × List UInt8)) (tv fv : Value) : Prop where
  tags : w.ownsRow base 71 2 tv tags.length (pairCells tags)
  fields : w.ownsRow base 76 3 fv fields.length (fieldCells fields)
theorem ERows.nil (w : World) (base : Nat) : ERows w base [] [] (.slice none 0 0) (.slice none 0 0) := ⟨World.ownsRow_nil _ _ _ _, World.ownsRow_nil _ _ _ _⟩
theorem ERows.but {w w' : World} {base : Nat} {tags : List (List UInt8 × List UInt8)} {fields : List (List UInt8 × Nat × List UInt8)} {tv fv : Value} {S : List Nat} (h : ERows w base tags fields tv fv) (hb : But S w w') (ht : ∀ k, tv.ownBlock = some k → k ∉ S) (hf : ∀ k, fv.ownBlock = some k → k ∉ S) : ERows w' base tags fields tv fv :=
  ⟨own_but h.tags hb ht, own_but h.fields hb hf⟩
theorem ERows.mono {w : World} {base base' : Nat} {tags : List (List UInt8 × List UInt8)} {fields : List (List UInt8 × Nat × List UInt8)} {tv fv : Value} (h : ERows w base tags fields tv fv) (hb : base' ≤ base) : ERows w base' tags fields tv fv :=
  ⟨own_mono h.tags hb, own_mono h.fields hb⟩
/-- Blocks of different types are different. -/
theorem ne_type {w : World} {g k : Nat} {a b : Array Value} {t u : TypeId} (h : w.heap[g]? = some (.cells a t (0, 0))) (k' : w.heap[k]? = some (.cells b u (0, 0))) (hne : t ≠ u) : g ≠ k := by
  rintro rfl
  rw [h] at k'
  simp only [Option.some.injEq, Obj.cells.injEq] at k'
  exact hne k'.2.1
/-- One tag more. -/
theorem ERows.tag {w : World} {base : Nat} {tags : List (List UInt8 × List UInt8)} {fields : List (List UInt8 × Nat × List UInt8)} {tv fv : Value} (h : ERows w base tags fields tv fv) (hn : tags.length ≤ 100000) (hb : base ≤ w.heap.size) (a b : List UInt8) (ty : TypeId) :
    ∃ g cap w', (Builtin.append_ #[36, 36] ty #[tv, .slice (some ⟨w.heap.size, 0, none⟩) 1 1]).run Tryz.prog (w.alloc (.cells #[str a, str b] 71)) = .ok (.slice (some ⟨g, 0, none⟩) (tags.length + 1) cap) w' ∧
      ERows w' base (tags ++ [(a, b)]) fields (.slice (some ⟨g, 0, none⟩) (tags.length + 1) cap) fv ∧ (∀ S : List Nat, (∀ k, tv.ownBlock = some k → k ∈ S) → But S w w') ∧ (tv.ownBlock = some g ∨ w.heap.size ≤ g) := by
  obtain ⟨g, cap, w', r1, r2, r3, r4, r5⟩ := app_row 36 71 2 Tryz.underlying36 inf_pair (by decide) w base tv tags.length _ h.tags hn hb [str a, str b] rfl (by simp [str, Value.oneCell']) ty
  refine ⟨g, cap, w', r1, ⟨?_, ?_⟩, r3, r4⟩
  · rw [List.length_append]
    have e : pairCells (tags ++ [(a, b)]) = pairCells tags ++ [str a, str b] := by simp [pairCells]
    rw [e]
    exact r2
  · refine own_but h.fields (r3 (match tv.ownBlock with | some k => [k] | none => []) (fun k hk => by rw [hk]; simp)) (fun k hk => ?_)
    cases hv : tv.ownBlock with
    | none => simp
    | some q =>
      obtain ⟨_, _, c1, q1⟩ := own_base h.tags q hv
      obtain ⟨_, _, c2, q2⟩ := own_base h.fields k hk
      have := ne_type q2 q1 (by decide)
      simpa using this
/-- One field more. -/
theorem ERows.field {w : World} {base : Nat} {tags : List (List UInt8 × List UInt8)} {fields : List (List UInt8 × Nat × List UInt8)} {tv fv : Value} (h : ERows w base tags fields tv fv) (hn : fields.length ≤ 100000) (hb : base ≤ w.heap.size) (a : List UInt8) (k0 : Nat) (b : List UInt8) (ty : TypeId) :
    ∃ g cap w', (Builtin.append_ #[37, 37] ty #[fv, .slice (some ⟨w.heap.size, 0, none⟩) 1 1]).run Tryz.prog (w.alloc (.cells #[str a, .int .i64 (k0 : Int), str b] 76)) = .ok (.slice (some ⟨g, 0, none⟩) (fields.length + 1) cap) w' ∧
      ERows w' base tags (fields ++ [(a, k0, b)]) tv (.slice (some ⟨g, 0, none⟩) (fields.length + 1) cap) ∧ (∀ S : List Nat, (∀ k, fv.ownBlock = some k → k ∈ S) → But S w w') ∧ (fv.ownBlock = some g ∨ w.heap.size ≤ g) := by
  obtain ⟨g, cap, w', r1, r2, r3, r4, r5⟩ := app_row 37 76 3 Tryz.underlying37 inf_field (by decide) w base fv fields.length _ h.fields hn hb [str a, .int .i64 (k0 : Int), str b] rfl (by simp [str, Value.oneCell']) ty
  refine ⟨g, cap, w', r1, ⟨?_, ?_⟩, r3, r4⟩
  · refine own_but h.tags (r3 (match fv.ownBlock with | some k => [k] | none => []) (fun k hk => by rw [hk]; simp)) (fun k hk => ?_)
    cases hv : fv.ownBlock with
    | none => simp
    | some q =>
      obtain ⟨_, _, c1, q1⟩ := own_base h.fields q hv
      obtain ⟨_, _, c2, q2⟩ := own_base h.tags k hk
      have := ne_type q2 q1 (by decide)
      simpa using this
  · rw [List.length_append]
    have e : fieldCells (fields ++ [(a, k0, b)]) = fieldCells fields ++ [str a, .int .i64 (k0 : Int), str b] := by simp [fieldCells]
    rw [e]
    exact r2
end Go.Proofs.YtlcbcgillekphaaGreatDoor.ent
namespace Go.Proofs.YtlcbcgillekphaaGreatDoor.ent
open Go.RowKit Mem rw
set_option linter.unusedVariables false
set_option linter.unusedSimpArgs false

/-- An entry with where its tags and fields lie. -/
structure EnP where
  E : dm.En
  tv : Value
  fv : Value
def entCells (l : List EnP) : List Value := l.flatMap fun p => enC p.E p.tv p.fv
structure Ents (w : World) (base : Nat) (v : Value) (l : List EnP) : Prop where
  own : w.ownsRow base 41 10 v l.length (entCells l)
  rows : ∀ p ∈ l, ERows w base p.E.tags p.E.fields p.tv p.fv
theorem Ents.nil (w : World) (base : Nat) : Ents w base (.slice none 0 0) [] := ⟨World.ownsRow_nil _ _ _ _, fun p hp => by simp at hp⟩
theorem Ents.but {w w' : World} {base : Nat} {v : Value} {l : List EnP} {S : List Nat} (h : Ents w base v l) (hb : But S w w') (hv : ∀ k, v.ownBlock = some k → k ∉ S) (ht : ∀ p ∈ l, (∀ k, p.tv.ownBlock = some k → k ∉ S) ∧ (∀ k, p.fv.ownBlock = some k → k ∉ S)) : Ents w' base v l :=
  ⟨own_but h.own hb hv, fun p hp => (h.rows p hp).but hb (ht p hp).1 (ht p hp).2⟩
theorem Ents.below {w w' : World} {base : Nat} {v : Value} {l : List EnP} (h : Ents w base v l) (hb : But [] w w') : Ents w' base v l := h.but hb (fun k _ => by simp) (fun p _ => ⟨fun k _ => by simp, fun k _ => by simp⟩)
theorem Ents.mono {w : World} {base base' : Nat} {v : Value} {l : List EnP} (h : Ents w base v l) (hb : base' ≤ base) : Ents w base' v l := ⟨own_mono h.own hb, fun p hp => (h.rows p hp).mono hb⟩
theorem enC_len (E : dm.En) (tv fv : Value) : (enC E tv fv).length = 10 := by
  unfold enC flC
  cases E.fault <;> simp
theorem flC_form (o : Option (Nat × Nat)) : ∃ (b : Bool) (l k : Nat), flC o = [.bool b, .int .i64 (l : Int), .int .i64 (k : Int), .bool false] := by
  cases o with
  | none => exact ⟨false, 0, 0, rfl⟩
  | some q => exact ⟨true, q.1, q.2, rfl⟩
theorem enC_form {w : World} {base : Nat} {E : dm.En} {tv fv : Value} (h : ERows w base E.tags E.fields tv fv) : ∃ (nm tm : ByteArray) (ta fa : Option Addr) (tn tc fn fc : Nat) (ht fb : Bool) (l k at_ : Nat),
    enC E tv fv = [.string nm, .slice ta tn tc, .slice fa fn fc, .string tm, .bool ht, .bool fb, .int .i64 l, .int .i64 k, .bool false, .int .i64 at_] := by
  obtain ⟨ta, tc, e1⟩ := own_form h.tags
  obtain ⟨fa, fc, e2⟩ := own_form h.fields
  obtain ⟨b, l, k, e3⟩ := flC_form E.fault
  refine ⟨⟨E.name.toArray⟩, ⟨E.time.toArray⟩, ta, fa, E.tags.length, tc, E.fields.length, fc, !E.time.isEmpty, b, l, k, E.at_, ?_⟩
  unfold enC
  rw [e3, e1, e2]
  rfl
/-- One entry more. -/
theorem Ents.more {w : World} {base : Nat} {v : Value} {l : List EnP} (h : Ents w base v l) (hn : l.length ≤ 100000) (hb : base ≤ w.heap.size) (p : EnP) (hp : ERows w base p.E.tags p.E.fields p.tv p.fv) (ty : TypeId) :
    ∃ g cap w', (Builtin.append_ #[23, 23] ty #[v, .slice (some ⟨w.heap.size, 0, none⟩) 1 1]).run Tryz.prog (w.alloc (.cells (enC p.E p.tv p.fv).toArray 41)) = .ok (.slice (some ⟨g, 0, none⟩) (l.length + 1) cap) w' ∧
      Ents w' base (.slice (some ⟨g, 0, none⟩) (l.length + 1) cap) (l ++ [p]) ∧ (∀ S : List Nat, (∀ k, v.ownBlock = some k → k ∈ S) → But S w w') ∧ (v.ownBlock = some g ∨ w.heap.size ≤ g) := by
  obtain ⟨nm, tm, ta, fa, tn, tc, fn, fc, ht, fb, ll, k, at_, e⟩ := enC_form hp
  obtain ⟨g, cap, w', r1, r2, r3, r4, r5⟩ := app_row 23 41 10 Tryz.underlying23 inf_entry (by decide) w base v l.length _ h.own hn hb (enC p.E p.tv p.fv) (enC_len _ _ _) (by rw [e]; simp [Value.oneCell']) ty
  refine ⟨g, cap, w', r1, ⟨?_, fun q hq => ?_⟩, r3, r4⟩
  · rw [List.length_append]
    have e : entCells (l ++ [p]) = entCells l ++ enC p.E p.tv p.fv := by simp [entCells]
    rw [e]
    exact r2
  · have hb0 := r3 (match v.ownBlock with | some k => [k] | none => []) (fun k hk => by rw [hk]; simp)
    have hq' : ERows w base q.E.tags q.E.fields q.tv q.fv := by
      rcases List.mem_append.1 hq with h1 | h1
      · exact h.rows q h1
      · simp at h1; rw [h1]; exact hp
    refine hq'.but hb0 (fun k hk => ?_) (fun k hk => ?_)
    · cases hv : v.ownBlock with
      | none => simp
      | some r =>
        obtain ⟨_, _, c1, q1⟩ := own_base h.own r hv
        obtain ⟨_, _, c2, q2⟩ := own_base hq'.tags k hk
        simpa using ne_type q2 q1 (by decide)
    · cases hv : v.ownBlock with
      | none => simp
      | some r =>
        obtain ⟨_, _, c1, q1⟩ := own_base h.own r hv
        obtain ⟨_, _, c2, q2⟩ := own_base hq'.fields k hk
        simpa using ne_type q2 q1 (by decide)
/-- The cells of an entry of such a slice. -/
theorem Ents.at_ {w : World} {base : Nat} {v : Value} {l : List EnP} (h : Ents w base v l) (hn : 0 < l.length) : ∃ g cap, v = .slice (some ⟨g, 0, none⟩) l.length cap ∧ base ≤ g ∧ g < w.heap.size ∧ l.length ≤ cap ∧ cap ≤ 9223372036854775807 ∧
    ∀ (i : Nat) (hi : i < l.length) (j : Nat), j < 10 → w.cell? ⟨g, i * 10 + j, none⟩ = (enC (l[i]'hi).E (l[i]'hi).tv (l[i]'hi).fv)[j]? := by
  obtain ⟨g, cap, h1, h2, h3, h4, h5, h6⟩ := own_at h.own hn
  refine ⟨g, cap, h1, h2, h3, h4, h5, fun i hi j hj => ?_⟩
  rw [h6 _ (by omega)]
  clear h6 h1 h2 h3 h4 h5 hn h
  induction l generalizing i with
  | nil => simp at hi
  | cons p t ih =>
    have e : entCells (p :: t) = enC p.E p.tv p.fv ++ entCells t := by simp [entCells]
    rw [e]
    cases i with
    | zero =>
      rw [List.getElem?_append_left (by rw [enC_len]; omega)]
      simp
    | succ i =>
      rw [List.getElem?_append_right (by rw [enC_len]; omega), enC_len, show (i + 1) * 10 + j - 10 = i * 10 + j by omega]
      exact ih i (by simp at hi; omega)
end Go.Proofs.YtlcbcgillekphaaGreatDoor.ent
namespace Go.Proofs.YtlcbcgillekphaaGreatDoor.dm
open Go.RowKit Mem
set_option linter.unusedVariables false
set_option linter.unusedSimpArgs false

theorem behind_keep {T : List UInt8} {m m' : M} {o : Option Nat} (h : behindM T m = (o, m')) : m.at_ ≤ m'.at_ ∧ m'.part = m.part ∧ m'.from_ = m.from_ := by
  unfold behindM at h
  dsimp only at h
  repeat' split at h
  all_goals
    obtain ⟨rfl, rfl⟩ := Prod.mk.inj h
    simp
theorem after_keep {T : List UInt8} {m m' : M} (hp : m.part = 2) (h : afterM T m = (none, m')) : m.at_ ≤ m'.at_ ∧ (m'.part = 2 ∨ m'.part = 3 ∨ m'.part = 5) ∧ m'.from_ = m.from_ := by
  unfold afterM at h
  dsimp only at h
  repeat' split at h
  all_goals first
    | (obtain ⟨h1, rfl⟩ := Prod.mk.inj h; cases h1; done)
    | (obtain ⟨h1, rfl⟩ := Prod.mk.inj h; simp [hp]; try omega)
theorem after_flt {T : List UInt8} {m m' : M} {p : Nat} (h : afterM T m = (some p, m')) : m'.part = m.part := by
  unfold afterM at h
  dsimp only at h
  repeat' split at h
  all_goals first
    | (obtain ⟨h1, rfl⟩ := Prod.mk.inj h; cases h1; done)
    | (obtain ⟨h1, rfl⟩ := Prod.mk.inj h; rfl)
theorem value_keep {T : List UInt8} {m m' : M} {r : Nat ⊕ (Nat × List UInt8)} (h : valueM T m = (r, m')) : m.at_ ≤ m'.at_ ∧ m'.part = m.part ∧ m'.from_ = m.from_ := by
  unfold valueM at h
  dsimp only at h
  repeat' split at h
  all_goals
    obtain ⟨h1, rfl⟩ := Prod.mk.inj h
    simp
    try omega
theorem flt_inj {α : Type} {T : List UInt8} {m m' : M} {p : Nat} {r : Res α} (h : flt T m p = (r, m')) : r = .fault (place T m.from_ p).1 (place T m.from_ p).2 ∧ m' = m.bad := by
  unfold flt at h
  obtain ⟨h1, h2⟩ := Prod.mk.inj h
  exact ⟨h1.symm, h2.symm⟩
theorem bad_part (m : M) (h : m.part ≠ 5) : m.bad.part = 4 := by unfold M.bad; simp [h]
theorem tok_ne {k : Nat} {l : List UInt8} (h : ¬ (tok k l).1 = []) : 1 ≤ (tok k l).2 := by
  have := tok_len k l
  have : (tok k l).1.length ≠ 0 := fun e => h (List.eq_nil_of_length_eq_zero e)
  omega
theorem name_some {T : List UInt8} {m m' : M} {o : List UInt8} (h : nameM T m = (.some o, m')) : m'.part = 1 ∧ m'.from_ = m.from_ ∧ m.at_ < m'.at_ := by
  unfold nameM at h
  dsimp only at h
  split at h
  · have := (flt_inj h).1; cases this
  · split at h
    · have := (flt_inj h).1; cases this
    · next hne =>
      split at h
      · have := (flt_inj h).1; cases this
      · next m2 hb =>
        obtain ⟨h1, rfl⟩ := Prod.mk.inj h
        have hk := behind_keep hb
        have := tok_ne (fun e => hne (.inl e))
        simp only at hk
        refine ⟨rfl, hk.2.2, ?_⟩
        simp only
        omega
theorem name_none {T : List UInt8} {m m' : M} (h : nameM T m = (.none, m')) : False := by
  unfold nameM at h
  dsimp only at h
  repeat' split at h
  all_goals first
    | (have := (flt_inj h).1; cases this; done)
    | (have := (Prod.mk.inj h).1; cases this; done)
theorem name_flt {T : List UInt8} {m m' : M} {l c : Nat} (hp : m.part ≠ 5) (h : nameM T m = (.fault l c, m')) : m'.part = 4 := by
  unfold nameM at h
  dsimp only at h
  split at h
  · rw [(flt_inj h).2]; exact bad_part _ hp
  · split at h
    · rw [(flt_inj h).2]; exact bad_part _ hp
    · split at h
      · next hb => rw [(flt_inj h).2]; exact bad_part _ (by rw [(behind_keep hb).2.1]; exact hp)
      · have := (Prod.mk.inj h).1; cases this
theorem tag_some {T : List UInt8} {m m' : M} {p : List UInt8 × List UInt8} (h : tagM T m = (.some p, m')) : m.at_ < m'.at_ ∧ (m'.part = 1 ∨ m'.part = 2) ∧ m'.from_ = m.from_ := by
  unfold tagM at h
  dsimp only at h
  split at h
  · have := (Prod.mk.inj h).1; cases this
  · next hp =>
    have hp1 : m.part = 1 := by omega
    split at h
    · have := (Prod.mk.inj h).1; cases this
    · split at h
      · have := (flt_inj h).1; cases this
      · split at h
        · have := (flt_inj h).1; cases this
        · split at h
          · have := (flt_inj h).1; cases this
          · split at h
            · have := (flt_inj h).1; cases this
            · split at h
              · obtain ⟨h1, rfl⟩ := Prod.mk.inj h
                simp
                omega
              · split at h
                · have := (flt_inj h).1; cases this
                · next hb =>
                  obtain ⟨h1, rfl⟩ := Prod.mk.inj h
                  have hk := behind_keep hb
                  simp only at hk
                  refine ⟨by omega, .inl (by rw [hk.2.1]; exact hp1), hk.2.2⟩
theorem tag_none {T : List UInt8} {m m' : M} (hp : 1 ≤ m.part) (h : tagM T m = (.none, m')) : 2 ≤ m'.part ∧ m'.from_ = m.from_ ∧ m.at_ ≤ m'.at_ ∧ (m'.part = 2 ∨ m' = m) := by
  unfold tagM at h
  dsimp only at h
  repeat' split at h
  all_goals first
    | (have := (flt_inj h).1; cases this; done)
    | (obtain ⟨h1, rfl⟩ := Prod.mk.inj h; cases h1; done)
    | (obtain ⟨h1, rfl⟩ := Prod.mk.inj h; simp; try omega)
theorem tag_flt {T : List UInt8} {m m' : M} {l c : Nat} (h : tagM T m = (.fault l c, m')) : m'.part = 4 := by
  unfold tagM at h
  dsimp only at h
  split at h
  · have := (Prod.mk.inj h).1; cases this
  · next hp =>
    have hp1 : m.part = 1 := by omega
    repeat' split at h
    all_goals first
      | (obtain ⟨h1, h2⟩ := Prod.mk.inj h; cases h1; done)
      | (rw [(flt_inj h).2]; rename_i hb; have hk := (behind_keep hb).2.1; exact bad_part _ (by rw [hk]; simp [hp1]))
      | (rw [(flt_inj h).2]; exact bad_part _ (by simp [hp1]))
theorem field_some {T : List UInt8} {m m' : M} {p : List UInt8 × Nat × List UInt8} (h : fieldM T m = (.some p, m')) : m.at_ < m'.at_ ∧ (m'.part = 2 ∨ m'.part = 3 ∨ m'.part = 5) ∧ m'.from_ = m.from_ := by
  unfold fieldM at h
  dsimp only at h
  split at h
  · have := (Prod.mk.inj h).1; cases this
  · next hp =>
    have hp1 : m.part = 2 := by omega
    split at h
    · have := (flt_inj h).1; cases this
    · split at h
      · have := (flt_inj h).1; cases this
      · split at h
        · have := (flt_inj h).1; cases this
        · split at h
          · have := (flt_inj h).1; cases this
          · next hv =>
            split at h
            · have := (flt_inj h).1; cases this
            · next ha =>
              obtain ⟨h1, rfl⟩ := Prod.mk.inj h
              have hk := value_keep hv
              simp only at hk
              have ha := after_keep (by rw [hk.2.1]; exact hp1) ha
              exact ⟨by omega, ha.2.1, ha.2.2.trans hk.2.2⟩
theorem value_kind {T : List UInt8} {m m' : M} {k : Nat} {u : List UInt8} (h : valueM T m = (.inr (k, u), m')) : k ≤ 5 := by
  unfold valueM at h
  dsimp only at h
  repeat' split at h
  all_goals first
    | (have h1 := (Prod.mk.inj h).1; cases h1; done)
    | (have h1 := (Prod.mk.inj h).1; simp only [Sum.inr.injEq, Prod.mk.injEq] at h1; omega)
theorem field_kind {T : List UInt8} {m m' : M} {p : List UInt8 × Nat × List UInt8} (h : fieldM T m = (.some p, m')) : p.2.1 ≤ 5 := by
  unfold fieldM at h
  dsimp only at h
  split at h
  · have := (Prod.mk.inj h).1; cases this
  · split at h
    · have := (flt_inj h).1; cases this
    · split at h
      · have := (flt_inj h).1; cases this
      · split at h
        · have := (flt_inj h).1; cases this
        · split at h
          · have := (flt_inj h).1; cases this
          · next hv =>
            split at h
            · have := (flt_inj h).1; cases this
            · have h1 := (Prod.mk.inj h).1
              simp only [Res.some.injEq] at h1
              rw [← h1]
              exact value_kind hv
theorem field_none {T : List UInt8} {m m' : M} (h : fieldM T m = (.none, m')) : m.part ≠ 2 ∧ m' = m := by
  unfold fieldM at h
  dsimp only at h
  split at h
  · next hp => exact ⟨hp, (Prod.mk.inj h).2.symm⟩
  · exfalso
    repeat' split at h
    all_goals first
      | (have := (flt_inj h).1; cases this; done)
      | (have := (Prod.mk.inj h).1; cases this; done)
theorem field_flt {T : List UInt8} {m m' : M} {l c : Nat} (h : fieldM T m = (.fault l c, m')) : m'.part = 4 := by
  unfold fieldM at h
  dsimp only at h
  split at h
  · have := (Prod.mk.inj h).1; cases this
  · next hp =>
    have hp1 : m.part = 2 := by omega
    split at h
    · rw [(flt_inj h).2]; exact bad_part _ (by simp [hp1])
    · split at h
      · rw [(flt_inj h).2]; exact bad_part _ (by simp [hp1])
      · split at h
        · rw [(flt_inj h).2]; exact bad_part _ (by simp [hp1])
        · split at h
          · next hv =>
            have hk := (value_keep hv).2.1
            rw [(flt_inj h).2]; exact bad_part _ (by rw [hk]; simp [hp1])
          · next hv =>
            have hk := (value_keep hv).2.1
            split at h
            · next ha => rw [(flt_inj h).2]; exact bad_part _ (by rw [after_flt ha, hk]; simp [hp1])
            · have := (Prod.mk.inj h).1; cases this
theorem time_some {T : List UInt8} {m m' : M} {o : List UInt8} (h : timeM T m = (.some o, m')) : m'.part = 5 := by
  unfold timeM at h
  dsimp only at h
  repeat' split at h
  all_goals first
    | (have := (flt_inj h).1; cases this; done)
    | (obtain ⟨h1, rfl⟩ := Prod.mk.inj h; first | rfl | (cases h1; done))
theorem time_none {T : List UInt8} {m m' : M} (h : timeM T m = (.none, m')) : m.part ≠ 3 ∧ m' = m := by
  unfold timeM at h
  dsimp only at h
  split at h
  · next hp => exact ⟨hp, (Prod.mk.inj h).2.symm⟩
  · exfalso
    repeat' split at h
    all_goals first
      | (have := (flt_inj h).1; cases this; done)
      | (have := (Prod.mk.inj h).1; cases this; done)
theorem time_flt {T : List UInt8} {m m' : M} {l c : Nat} (h : timeM T m = (.fault l c, m')) : m'.part = 5 ∨ m'.part = 4 := by
  have hb : ∀ m : M, m.bad.part = 5 ∨ m.bad.part = 4 := fun m => by unfold M.bad; simp only; split <;> simp
  unfold timeM at h
  dsimp only at h
  repeat' split at h
  all_goals first
    | (rw [(flt_inj h).2]; exact hb _)
    | (have := (Prod.mk.inj h).1; cases this; done)
end Go.Proofs.YtlcbcgillekphaaGreatDoor.dm
namespace Go.Proofs.YtlcbcgillekphaaGreatDoor.dm
set_option linter.unusedVariables false

theorem runN_again (P : UInt8 → Bool) (l : List UInt8) : runN P (l.drop (runN P l)) = 0 := by
  unfold runN
  induction l with
  | nil => rfl
  | cons c t ih =>
    by_cases hc : P c = true
    · rw [List.takeWhile_cons_of_pos hc]
      simpa using ih
    · rw [List.takeWhile_cons_of_neg hc]
      simp [List.takeWhile_cons_of_neg hc]
theorem tokL_again (p : UInt8 → Bool) (r : UInt8 → UInt8) : ∀ (n : Nat) (l : List UInt8), l.length ≤ n → tokL p r (l.drop (tokL p r l).2) = ([], 0)
  | 0, l, h => by
    obtain rfl : l = [] := List.eq_nil_of_length_eq_zero (by omega)
    rfl
  | n + 1, [], h => rfl
  | n + 1, [c], h => by
    by_cases h1 : c = 92 ∨ p c = true
    · have e : tokL p r [c] = ([c], 1) := by unfold tokL; rw [if_pos h1]
      rw [e]; rfl
    · have e : tokL p r [c] = ([], 0) := by unfold tokL; rw [if_neg h1]
      rw [e]
      exact e
  | n + 1, c :: d :: t, h => by
    simp only [List.length_cons] at h
    have h1 := tokL_again p r n (d :: t) (by simp; omega)
    have h2 := tokL_again p r n t (by omega)
    by_cases hc : c = 92
    · by_cases hd : r d = 0
      · have e : tokL p r (c :: d :: t) = (c :: (tokL p r (d :: t)).1, (tokL p r (d :: t)).2 + 1) := by
          rw [tokL, if_pos hc, if_pos hd]
        rw [e]
        exact h1
      · have e : tokL p r (c :: d :: t) = (r d :: (tokL p r t).1, (tokL p r t).2 + 2) := by
          rw [tokL, if_pos hc, if_neg hd]
        rw [e]
        exact h2
    · by_cases hp : p c = true
      · have e : tokL p r (c :: d :: t) = (c :: (tokL p r (d :: t)).1, (tokL p r (d :: t)).2 + 1) := by
          rw [tokL, if_neg hc, if_pos hp]
        rw [e]
        exact h1
      · have e : tokL p r (c :: d :: t) = ([], 0) := by
          rw [tokL, if_neg hc, if_neg hp]
        rw [e]
        exact e
theorem passed_nil (g : Nat) : passed g [] = 0 := by
  cases g with
  | zero => rfl
  | succ g => rfl
/-- What passed says, by cases. -/
theorem passed_step (f : Nat) (l : List UInt8) :
    (l.drop (runN (inS 0) l) = [] ∧ passed (f + 1) l = runN (inS 0) l) ∨
    (∃ c t, l.drop (runN (inS 0) l) = c :: t ∧
      ((c = 35 ∧ eol ((c :: t).drop (runN (inS 11) (c :: t))) = none ∧ passed (f + 1) l = 0) ∨
       (∃ e, c = 35 ∧ eol ((c :: t).drop (runN (inS 11) (c :: t))) = some e ∧ passed (f + 1) l = runN (inS 0) l + runN (inS 11) (c :: t) + e + passed f ((c :: t).drop (runN (inS 11) (c :: t) + e))) ∨
       (c ≠ 35 ∧ eol (c :: t) = none ∧ passed (f + 1) l = runN (inS 0) l) ∨
       (∃ e, c ≠ 35 ∧ eol (c :: t) = some e ∧ passed (f + 1) l = runN (inS 0) l + e + passed f ((c :: t).drop e)))) := by
  rw [passed]
  simp only []
  cases h : l.drop (runN (inS 0) l) with
  | nil => exact .inl ⟨rfl, rfl⟩
  | cons c t =>
    refine .inr ⟨c, t, rfl, ?_⟩
    simp only []
    by_cases hc : c = 35
    · rw [if_pos hc]
      cases he : eol ((c :: t).drop (runN (inS 11) (c :: t))) with
      | none => exact .inl ⟨hc, rfl, rfl⟩
      | some e => exact .inr (.inl ⟨e, hc, rfl, rfl⟩)
    · rw [if_neg hc]
      cases he : eol (c :: t) with
      | none => exact .inr (.inr (.inl ⟨hc, rfl, rfl⟩))
      | some e => exact .inr (.inr (.inr ⟨e, hc, rfl, rfl⟩))
theorem eol_one {c : UInt8} {t : List UInt8} {e : Nat} (h : eol (c :: t) = some e) : 1 ≤ e := by
  unfold eol at h
  simp only [] at h
  split at h
  · simp at h; omega
  · split at h
    · split at h
      · simp at h; omega
      · split at h
        · simp at h; omega
        · cases h
    · cases h
theorem eol_le {l : List UInt8} {e : Nat} (h : eol l = some e) : e ≤ l.length := by
  match l with
  | [] => simp [eol] at h; omega
  | [c] =>
    simp only [eol] at h
    split at h
    · simp at h; simp; omega
    · split at h
      · simp at h; simp; omega
      · cases h
  | c :: d :: t =>
    simp only [eol] at h
    split at h
    · simp at h; simp; omega
    · split at h
      · split at h
        · simp at h; simp; omega
        · cases h
      · cases h
theorem passed_le : ∀ (f : Nat) (l : List UInt8), passed f l ≤ l.length
  | 0, l => Nat.zero_le _
  | f + 1, l => by
    have hn := runN_le (inS 0) l
    rcases passed_step f l with ⟨h1, h2⟩ | ⟨c, t, h1, h2⟩
    · rw [h2]; exact hn
    · have hlen := congrArg List.length h1
      rw [List.length_drop] at hlen
      rcases h2 with ⟨hc, he, hp⟩ | ⟨e, hc, he, hp⟩ | ⟨hc, he, hp⟩ | ⟨e, hc, he, hp⟩
      · rw [hp]; exact Nat.zero_le _
      · have h3 := passed_le f ((c :: t).drop (runN (inS 11) (c :: t) + e))
        have h4 := eol_le he
        have h5 := runN_le (inS 11) (c :: t)
        rw [List.length_drop] at h3 h4
        rw [hp]; omega
      · rw [hp]; exact hn
      · have h3 := passed_le f ((c :: t).drop e)
        have h4 := eol_le he
        rw [List.length_drop] at h3
        rw [hp]; omega
theorem passed_again : ∀ (f : Nat) (l : List UInt8), l.length ≤ f → ∀ g, passed (g + 1) (l.drop (passed (f + 1) l)) = 0 := by
  intro f
  induction f using Nat.strongRecOn with
  | _ f ih =>
    intro l hl g
    rcases passed_step f l with ⟨h1, h2⟩ | ⟨c, t, h1, h2⟩
    · rw [h2, h1]; exact passed_nil _
    · have hlen : (c :: t).length + runN (inS 0) l = l.length := by
        have := congrArg List.length h1
        rw [List.length_drop] at this
        have := runN_le (inS 0) l
        simp only [List.length_cons] at *
        omega
      simp only [List.length_cons] at hlen
      rcases h2 with ⟨hc, he, hp⟩ | ⟨e, hc, he, hp⟩ | ⟨hc, he, hp⟩ | ⟨e, hc, he, hp⟩
      · rw [hp, List.drop_zero]
        rcases passed_step g l with ⟨k1, k2⟩ | ⟨c', t', k1, k2⟩
        · rw [h1] at k1; cases k1
        · rw [h1] at k1
          cases k1
          rcases k2 with ⟨_, _, kp⟩ | ⟨e', _, ke, _⟩ | ⟨kc, _, _⟩ | ⟨e', kc, _, _⟩
          · exact kp
          · rw [he] at ke; cases ke
          · exact absurd hc kc
          · exact absurd hc kc
      · obtain ⟨f', rfl⟩ : ∃ f', f = f' + 1 := ⟨f - 1, by omega⟩
        have hq : 1 ≤ runN (inS 11) (c :: t) := by
          unfold runN
          rw [List.takeWhile_cons_of_pos (by rw [hc]; decide)]
          simp
        rw [hp, show runN (inS 0) l + runN (inS 11) (c :: t) + e + passed (f' + 1) ((c :: t).drop (runN (inS 11) (c :: t) + e)) = runN (inS 0) l + ((runN (inS 11) (c :: t) + e) + passed (f' + 1) ((c :: t).drop (runN (inS 11) (c :: t) + e))) by omega,
          ← List.drop_drop, h1, ← List.drop_drop]
        exact ih f' (by omega) _ (by rw [List.length_drop, List.length_cons]; omega) g
      · rw [hp]
        have hz : runN (inS 0) (c :: t) = 0 := by rw [← h1]; exact runN_again _ _
        rcases passed_step g (l.drop (runN (inS 0) l)) with ⟨k1, k2⟩ | ⟨c', t', k1, k2⟩
        · rw [h1, hz] at k1; cases k1
        · rw [h1, hz] at k1
          cases k1
          rcases k2 with ⟨kc, _, _⟩ | ⟨e', kc, _, _⟩ | ⟨_, _, kp⟩ | ⟨e', _, ke, _⟩
          · exact absurd kc hc
          · exact absurd kc hc
          · rw [kp, h1]; exact hz
          · rw [he] at ke; cases ke
      · obtain ⟨f', rfl⟩ : ∃ f', f = f' + 1 := ⟨f - 1, by omega⟩
        have he1 := eol_one he
        rw [hp, show runN (inS 0) l + e + passed (f' + 1) ((c :: t).drop e) = runN (inS 0) l + (e + passed (f' + 1) ((c :: t).drop e)) by omega,
          ← List.drop_drop, h1, ← List.drop_drop]
        exact ih f' (by omega) _ (by rw [List.length_drop, List.length_cons]; omega) g
end Go.Proofs.YtlcbcgillekphaaGreatDoor.dm
namespace Go.Proofs.YtlcbcgillekphaaGreatDoor.dm
open Go.RowKit Mem
set_option linter.unusedVariables false
set_option linter.unusedSimpArgs false

theorem bad_at (m : M) : m.bad.at_ = m.at_ := rfl
theorem name_le {T : List UInt8} {m m' : M} {r : Res (List UInt8)} (h : nameM T m = (r, m')) : m.at_ ≤ m'.at_ := by
  unfold nameM at h
  dsimp only at h
  repeat' split at h
  all_goals first
    | (rw [(flt_inj h).2, bad_at]; rename_i hb; have hk := (behind_keep hb).1; simp only at hk; omega)
    | (rw [(flt_inj h).2, bad_at]; simp; done)
    | (obtain ⟨h1, rfl⟩ := Prod.mk.inj h; rename_i hb; have hk := (behind_keep hb).1; simp only at hk ⊢; omega)
theorem tag_le {T : List UInt8} {m m' : M} {r : Res (List UInt8 × List UInt8)} (h : tagM T m = (r, m')) : m.at_ ≤ m'.at_ := by
  unfold tagM at h
  dsimp only at h
  repeat' split at h
  all_goals first
    | (rw [(flt_inj h).2, bad_at]; rename_i hb; have hk := (behind_keep hb).1; simp only at hk; omega)
    | (rw [(flt_inj h).2, bad_at]; simp; done)
    | (rw [(flt_inj h).2, bad_at]; simp only; omega)
    | (obtain ⟨h1, rfl⟩ := Prod.mk.inj h; rename_i hb; have hk := (behind_keep hb).1; simp only at hk ⊢; omega)
    | (obtain ⟨h1, rfl⟩ := Prod.mk.inj h; simp; try omega)
theorem after_le {T : List UInt8} {m m' : M} {o : Option Nat} (h : afterM T m = (o, m')) : m.at_ ≤ m'.at_ := by
  unfold afterM at h
  dsimp only at h
  repeat' split at h
  all_goals
    obtain ⟨h1, rfl⟩ := Prod.mk.inj h
    simp
    try omega
theorem field_le {T : List UInt8} {m m' : M} {r : Res (List UInt8 × Nat × List UInt8)} (h : fieldM T m = (r, m')) : m.at_ ≤ m'.at_ := by
  unfold fieldM at h
  dsimp only at h
  split at h
  · obtain ⟨h1, rfl⟩ := Prod.mk.inj h; exact Nat.le_refl _
  · split at h
    · rw [(flt_inj h).2, bad_at]; simp
    · split at h
      · rw [(flt_inj h).2, bad_at]; simp
      · split at h
        · rw [(flt_inj h).2, bad_at]; simp
        · split at h
          · next hv =>
            have hk := (value_keep hv).1
            simp only at hk
            rw [(flt_inj h).2, bad_at]; omega
          · next hv =>
            have hk := (value_keep hv).1
            simp only at hk
            split at h
            · next ha =>
              have ha := after_le ha
              rw [(flt_inj h).2, bad_at]; omega
            · next ha =>
              have ha := after_le ha
              obtain ⟨h1, rfl⟩ := Prod.mk.inj h
              omega
theorem time_le {T : List UInt8} {m m' : M} {r : Res (List UInt8)} (h : timeM T m = (r, m')) : m.at_ ≤ m'.at_ := by
  unfold timeM at h
  dsimp only at h
  repeat' split at h
  all_goals first
    | (rw [(flt_inj h).2, bad_at]; simp only; omega)
    | (obtain ⟨h1, rfl⟩ := Prod.mk.inj h; simp; try omega)
theorem tags_le {T : List UInt8} : ∀ (f : Nat) (m : M), m.at_ ≤ (tagsM T f m).2.2.at_
  | 0, m => Nat.le_refl _
  | f + 1, m => by
    unfold tagsM
    split
    · next h => exact tag_le h
    · next h => exact tag_le h
    · next p m1 h => exact Nat.le_trans (tag_le h) (tags_le f m1)
theorem fields_le {T : List UInt8} : ∀ (f : Nat) (m : M), m.at_ ≤ (fieldsM T f m).2.2.at_
  | 0, m => Nat.le_refl _
  | f + 1, m => by
    unfold fieldsM
    split
    · next h => exact field_le h
    · next h => exact field_le h
    · next p m1 h => exact Nat.le_trans (field_le h) (fields_le f m1)
theorem entry_le {T : List UInt8} {m m' : M} {E : En} (hp : m.part = 0) (h : entryM T m = (E, m')) : m.at_ ≤ m'.at_ ∧ (m'.part = 4 ∨ m.at_ < m'.at_) := by
  unfold entryM at h
  split at h
  · next hn => exact (name_none hn).elim
  · next hn =>
    obtain ⟨h1, rfl⟩ := Prod.mk.inj h
    exact ⟨name_le hn, .inl (name_flt (by omega) hn)⟩
  · next o m1 hn =>
    have hs := (name_some hn).2.2
    have ht := tags_le (T := T) (T.length + 1) m1
    dsimp only at h
    split at h
    · obtain ⟨h1, rfl⟩ := Prod.mk.inj h
      exact ⟨by omega, .inr (by omega)⟩
    · have hf := fields_le (T := T) (T.length + 1) (tagsM T (T.length + 1) m1).2.2
      split at h
      · obtain ⟨h1, rfl⟩ := Prod.mk.inj h
        exact ⟨by omega, .inr (by omega)⟩
      · split at h
        all_goals
          next hx =>
          have := time_le hx
          obtain ⟨h1, rfl⟩ := Prod.mk.inj h
          exact ⟨by omega, .inr (by omega)⟩
theorem next_le (T : List UInt8) (x s y : Nat) (hx : x ≤ T.length) : x ≤ (nextM T ⟨x, s, y⟩).at_ ∧ (s ≠ 5 → x < T.length → x < (nextM T ⟨x, s, y⟩).at_) := by
  unfold nextM
  dsimp only
  by_cases h : s = 5
  · rw [if_pos h]; exact ⟨by omega, fun h1 => absurd h h1⟩
  · rw [if_neg h]; exact ⟨by omega, fun _ h2 => by omega⟩
theorem next_form (T : List UInt8) (m : M) : nextM T m = ⟨(nextM T m).at_, 0, (nextM T m).at_⟩ := rfl
/-- All entries of a text. -/
def allM (T : List UInt8) : List En := entriesM T (2 * T.length + 2) ⟨0, 5, 0⟩
def mu (T : List UInt8) (x s : Nat) : Nat := 2 * (T.length - x) + if s = 4 then 0 else 1
end Go.Proofs.YtlcbcgillekphaaGreatDoor.dm
