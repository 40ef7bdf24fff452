/-
  Proved: plain laws on a row of bytes with spare room: what a conversion, an append of a string, a copy and stores leave in it.
  Conditions: each law's own.
-/
import Derived.Test.YtbffilfacmdhdaaDoorMem
import Derived.Lib.AppendStr
import Derived.Lib.BufferAt
import Derived.Deep.MidRow
import Derived.Laws.MakeOwn
namespace Go.Proofs.YtbffilfacmdhdaaDoor.Mem
open Go.RowKit
set_option linter.unusedVariables false

theorem info_byte : (Tryd.prog.info? 5).map (fun i => (i.zero, i.size, i.bytes)) = some (some (.int .u8 0), 1, 1) := by kernel_rfl

/-- The bytes l lie at the head of block A; there is room up to cap. -/
structure BufAt (w : World) (A : Nat) (l : List UInt8) (cap : Nat) : Prop where
  bytes : ∀ j x, l[j]? = some x → w.cell? ⟨A, j, none⟩ = some (.int .u8 (x.toNat : Int))
  room : ∀ j, j < cap → (w.cell? ⟨A, j, none⟩).isSome = true
  free : ∀ j, j < cap → w.frozen? ⟨A, j, none⟩ = false
  le : l.length ≤ cap
  lt : A < w.heap.size
  lim : cap ≤ 9223372036854775807

theorem BufAt.but {S : List Nat} {w w' : World} {A cap : Nat} {l : List UInt8} (h : BufAt w A l cap) (hb : But S w w') (hn : A ∉ S) : BufAt w' A l cap :=
  ⟨fun j x hx => (hb.cell (p := ⟨A, j, none⟩) h.lt hn).trans (h.bytes j x hx), fun j hj => by rw [hb.cell (p := ⟨A, j, none⟩) h.lt hn]; exact h.room j hj,
   fun j hj => (hb.frozen (p := ⟨A, j, none⟩) h.lt hn).trans (h.free j hj), h.le, Nat.lt_of_lt_of_le h.lt hb.size, h.lim⟩

theorem BufAt.of_bytesWorld (w : World) (s : ByteArray) (hs : s.size ≤ 9223372036854775807) : BufAt (Lib.bytesWorld w 5 s) w.heap.size s.data.toList (grownCap w s.size 0 5) := by
  have hge := grownCap_ge w s.size 0 5
  have hsz : (Lib.bytesCells w 5 s).size = grownCap w s.size 0 5 := by
    have : s.data.size = s.size := rfl
    simp [Lib.bytesCells]
    omega
  have hh := Lib.bytesWorld_at_new w 5 s
  refine ⟨fun j x hx => ?_, fun j hj => ?_, fun j hj => ?_, by simpa using hge, by rw [Lib.bytesWorld_size]; omega, by have := grownCap_le_maxLen w s.size 0 5 (by unfold maxLen; omega); unfold maxLen at this; omega⟩
  · have hlt : j < s.data.toList.length := (List.getElem?_eq_some_iff.1 hx).1
    rw [Lib.bytesWorld_cell w 5 s j (by simpa using hlt)]
    simp only [List.getD, hx, Option.getD_some]
  · simp only [World.cell?, hh]
    simp [hsz, hj]
  · simp only [World.frozen?, hh]
    simp only [hsz]
    simp
    omega

theorem BufAt.str {w : World} {A cap : Nat} {l : List UInt8} (h : BufAt w A l cap) :
    (convert 35 9 (.slice (some ⟨A, 0, none⟩) l.length cap)).run Tryd.prog w = .ok (.string ⟨l.toArray⟩) w := by
  have hs : (⟨l.toArray⟩ : ByteArray).size = l.length := by simp [ByteArray.size]
  have := conv_str w 35 5 9 Tryd.underlying35 Tryd.underlying5 Tryd.underlying9 A 0 cap ⟨l.toArray⟩ (fun j hj => by
    have hj' : j < l.length := by rw [hs] at hj; exact hj
    rw [Nat.zero_add]
    simp only [List.getD]
    rw [List.getElem?_eq_getElem hj']
    exact h.bytes j _ (List.getElem?_eq_getElem hj'))
  rw [hs] at this
  exact this

/-- Stores of bytes behind the first ones. -/
theorem BufAt.put {w : World} {A cap : Nat} {l : List UInt8} (h : BufAt w A l cap) (x : List UInt8) (hx : l.length + x.length ≤ cap) :
    BufAt (w.setCells A l.length (Lib.byteCells x)) A (l ++ x) cap ∧ But [A] w (w.setCells A l.length (Lib.byteCells x)) := by
  have hl : (Lib.byteCells x).length = x.length := by simp [Lib.byteCells]
  refine ⟨⟨fun j y hy => ?_, fun j hj => World.isSome_setCells _ _ _ _ _ (h.room j hj), fun j hj => by rw [World.frozen?_setCells]; exact h.free j hj, by rw [List.length_append]; exact hx, by rw [size_setCells]; exact h.lt, h.lim⟩,
    (But.refl [A] w).setCells (Or.inl (by simp)) _ _⟩
  by_cases hj : j < l.length
  · rw [List.getElem?_append_left hj] at hy
    rw [World.cell?_setCells_out _ _ _ _ _ (fun _ _ => Or.inl hj)]
    exact h.bytes j y hy
  · rw [List.getElem?_append_right (by omega)] at hy
    have hlt : j - l.length < x.length := (List.getElem?_eq_some_iff.1 hy).1
    have hc := World.cell?_setCells_in A (Lib.byteCells x) l.length w (fun q hq => h.room _ (by omega)) (j - l.length) (by omega)
    rw [show l.length + (j - l.length) = j from by omega] at hc
    rw [hc]
    have : x[j - l.length] = y := by
      have := List.getElem?_eq_getElem hlt
      rw [this] at hy
      exact Option.some.inj hy
    simp [Lib.byteCells, this]

/-- append(b, s...) at a row with room, or without. -/
theorem BufAt.append_str {w : World} {A cap : Nat} {l : List UInt8} (h : BufAt w A l cap) (s : ByteArray) (hlim : l.length + s.size ≤ 70368744177664) (ty : TypeId) :
    ∃ g cap' w', (Builtin.append_ #[35, 9] ty #[.slice (some ⟨A, 0, none⟩) l.length cap, .string s]).run Tryd.prog w = .ok (.slice (some ⟨g, 0, none⟩) (l ++ s.data.toList).length cap') w' ∧
      BufAt w' g (l ++ s.data.toList) cap' ∧ But [A] w w' := by
  obtain ⟨i, hi, hz, hz1, hz2⟩ := info_parts info_byte
  have hsl : s.data.toList.length = s.size := by simp
  by_cases hr : l.length + s.size ≤ cap
  · have hf := Lib.run_firstCells_string (P := Tryd.prog) w 1 s
    have hst := run_storeCells_cells (P := Tryd.prog) A l.length (Lib.strCells s) 0 w (fun j hj => by rw [Lib.strCells_length] at hj; simpa using h.room (l.length + j) (by omega)) (fun j hj => by rw [Lib.strCells_length] at hj; simpa using h.free (l.length + j) (by omega)) (Lib.strCells_oneCell s)
    have hp := h.put s.data.toList (by omega)
    refine ⟨A, cap, w.setCells A l.length (Lib.byteCells s.data.toList), ?_, hp.1, hp.2⟩
    have e : Lib.strCells s = Lib.byteCells s.data.toList := rfl
    rw [e] at hf hst
    simp [Builtin.append_, run_underlying Tryd.underlying35, run_underlying Tryd.underlying9, sizeOf, typeInfo, hi, hz1, Builtin.lenOf, hr, hf, Addr.add_lit]
    simp only [Nat.add_zero] at hst
    rw [hst]
    rfl
  · have hg := Lib.run_append_grow_string (P := Tryd.prog) w 35 9 ty 5 i (.int .u8 0) Tryd.underlying35 Tryd.underlying9 hi hz ⟨A, 0, none⟩ l.length cap (Lib.byteCells l) (by rw [hz1]; simp [Lib.byteCells]) (fun j v hv => by
        simp only [Lib.byteCells, List.getElem?_map, Option.map_eq_some_iff] at hv
        obtain ⟨x, hx, rfl⟩ := hv
        rw [Addr.add_lit, Nat.zero_add]
        exact h.bytes j x hx) s (by omega) (by omega) (by rw [hz2]; exact growslice_fits (by omega) (by omega))
    have hge := grownCap_ge w (l.length + s.size) cap 5
    have hlen : (l ++ s.data.toList).length = l.length + s.size := by simp
    rw [hlen]
    refine ⟨w.heap.size, _, _, hg, ?_, ((But.refl [A] w).drew).alloc _⟩
    have hh := heap_alloc_new w.drew (.cells ((Lib.byteCells l).toArray ++ (Lib.strCells s).toArray ++ Builtin.zeroCells (Value.int .u8 0).cells (grownCap w (l.length + s.size) cap 5 - (l.length + s.size))) 5)
    rw [show w.drew.heap.size = w.heap.size from rfl] at hh
    have hsz : ((Lib.byteCells l).toArray ++ (Lib.strCells s).toArray ++ Builtin.zeroCells (Value.int .u8 0).cells (grownCap w (l.length + s.size) cap 5 - (l.length + s.size))).size = grownCap w (l.length + s.size) cap 5 := by
      have hz1 : (Value.int IntKind.u8 0).cells.size = 1 := rfl
      simp only [Array.size_append, List.size_toArray, size_zeroCells, hz1, Lib.strCells_length]
      have : (Lib.byteCells l).length = l.length := by simp [Lib.byteCells]
      omega
    refine ⟨fun j y hy => ?_, fun j hj => ?_, fun j hj => ?_, by rw [hlen]; exact hge, by simp, by have := grownCap_le_maxLen w (l.length + s.size) cap 5 (by unfold maxLen; omega); unfold maxLen at this; omega⟩
    · rw [cell_of_row _ _ j _ _ _ hh]
      have hjl : j < (Lib.byteCells (l ++ s.data.toList)).length := by
        have := (List.getElem?_eq_some_iff.1 hy).1
        simpa [Lib.byteCells] using this
      have e : (Lib.byteCells l).toArray ++ (Lib.strCells s).toArray = (Lib.byteCells (l ++ s.data.toList)).toArray := by simp [Lib.byteCells, Lib.strCells]
      rw [e, Array.getElem?_append_left (by simpa using hjl)]
      rw [List.getElem?_toArray]
      unfold Lib.byteCells
      rw [List.getElem?_map, hy]
      rfl
    · rw [cell_of_row _ _ j _ _ _ hh]
      rw [Array.getElem?_eq_getElem (by rw [hsz]; exact hj)]
      rfl
    · exact frozen_of_row _ _ j _ _ hh

/-- append at the operation, its run told. -/
theorem app_step {w w' : World} {ops : Array Oper} {rest : List Oper} {o : Oper} {a : Act} {Q : Exit → Act → World → Prop} (hgd : o.guard = none) (s x : Operand) (t u : TypeId)
    (ho : o.op = .call { callee := .builtin .append, args := #[s, x], argTypes := #[t, u] }) (v y r : Value) (hs : a.eval s = v) (hx : a.eval x = y)
    (hr : (Builtin.append_ #[t, u] o.type #[v, y]).run Tryd.prog w = .ok r w') (h : wpList Tryd.prog ops Q rest (a.put o.dst r) w') : wpList Tryd.prog ops Q (o :: rest) a w :=
  wpList_plain hgd fun _ hK => by
    unfold Oper.wp execOp
    simp only [ho, resolve, invoke, builtin, Sem.run_bind, Sem.run_pure, Result.andThen_ok, List.map_toArray, List.map_cons, List.map_nil, hs, hx, hr]
    exact hK _ _ h

/-- make([]byte, n, c): a new row of zeros. -/
theorem make_row (w : World) (n c : Nat) (hn : n ≤ c) (hc : c ≤ 70368744177664) :
    (Instr.makeSlice 35 (.int .i64 (n : Int)) (.int .i64 (c : Int))).run Tryd.prog w = .ok (.slice (some ⟨w.heap.size, 0, none⟩) n c) (w.alloc (.cells (madeCells #[.int .u8 0] c) 5)) := by
  obtain ⟨i, hi, hz, hz1, hz2⟩ := info_parts info_byte
  have h := run_make (P := Tryd.prog) w 35 5 i (.int .u8 0) Tryd.underlying35 hi hz .i64 .i64 (n : Int) (c : Int) (by omega) (by omega) (by rw [hz2]; omega) (by omega)
  rw [hz1] at h
  simp only [Int.toNat_natCast, Nat.mul_one] at h
  exact h
theorem made_cells (w : World) (c : Nat) : (∀ j, j < c → (w.alloc (.cells (madeCells #[.int .u8 0] c) 5)).cell? ⟨w.heap.size, j, none⟩ = some (.int .u8 0)) ∧ ∀ j, (w.alloc (.cells (madeCells #[.int .u8 0] c) 5)).frozen? ⟨w.heap.size, j, none⟩ = false := by
  have hh := heap_alloc_new w (.cells (madeCells #[.int .u8 0] c) 5)
  refine ⟨fun j hj => ?_, fun j => frozen_of_row _ _ j _ _ hh⟩
  rw [cell_of_row _ _ j _ _ _ hh]
  simp [madeCells, hj, Nat.mod_one]
/-- copy of a row's bytes into a new row of zeros. -/
theorem made_copied {w : World} {A cap : Nat} {l : List UInt8} (h : BufAt w A l cap) (c : Nat) (hc : l.length ≤ c) (hc2 : c ≤ 70368744177664) (ty : TypeId) :
    (Builtin.copy_ #[35, 35] ty #[.slice (some ⟨w.heap.size, 0, none⟩) l.length c, .slice (some ⟨A, 0, none⟩) l.length cap]).run Tryd.prog (w.alloc (.cells (madeCells #[.int .u8 0] c) 5)) =
      .ok (goInt l.length) ((w.alloc (.cells (madeCells #[.int .u8 0] c) 5)).setCells w.heap.size 0 (Lib.byteCells l)) ∧
    BufAt ((w.alloc (.cells (madeCells #[.int .u8 0] c) 5)).setCells w.heap.size 0 (Lib.byteCells l)) w.heap.size l c ∧
    But [] w ((w.alloc (.cells (madeCells #[.int .u8 0] c) 5)).setCells w.heap.size 0 (Lib.byteCells l)) := by
  have hbl : (Lib.byteCells l).length = l.length := by simp [Lib.byteCells]
  obtain ⟨m1, m2⟩ := made_cells w c
  have ha : But [] w (w.alloc (.cells (madeCells #[.int .u8 0] c) 5)) := (But.refl _ _).alloc _
  have hs : (Tryd.prog.info? 5).map (·.size) = some 1 := by kernel_rfl
  have hr := run_copy_cells (P := Tryd.prog) (w.alloc (.cells (madeCells #[.int .u8 0] c) 5)) 35 35 ty 5 w.heap.size 0 l.length c ⟨A, 0, none⟩ l.length cap (Lib.byteCells l) Tryd.underlying35 hs (by rw [hbl]; simp)
    (fun j v hv => by
      simp only [Lib.byteCells, List.getElem?_map, Option.map_eq_some_iff] at hv
      obtain ⟨x, hx, rfl⟩ := hv
      rw [Addr.add_lit, Nat.zero_add]
      exact ha.cellAt (h.bytes j x hx) (by simp))
    (fun j hj => by rw [Nat.zero_add, m1 j (by omega)]; rfl) (fun j hj => m2 _) (Lib.byteCells_one l)
  rw [hbl] at hr
  have h0 : BufAt (w.alloc (.cells (madeCells #[.int .u8 0] c) 5)) w.heap.size [] c := ⟨fun j x hx => by simp at hx, fun j hj => by rw [m1 j hj]; rfl, fun j _ => m2 j, Nat.zero_le _, by simp, by omega⟩
  have hp := h0.put l (by simpa using hc)
  refine ⟨hr, hp.1, ?_⟩
  exact ha.setCells (Or.inr (Nat.le_refl _)) _ _
end Go.Proofs.YtbffilfacmdhdaaDoor.Mem
