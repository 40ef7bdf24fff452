/-
  Proved: append of a row's bytes to bytes in a row with spare room, as a law for the walk.
  Conditions: each law's own.
-/
import Derived.Test.YtbffilfacmdhdaaDoorBuf
import Derived.Deep.AppendSrc
import Derived.Lib.Hide
namespace Go.Proofs.YtbffilfacmdhdaaDoor.Mem
open Go.RowKit
set_option linter.unusedVariables false

theorem BufAt.append_row2 {w : World} {A cap : Nat} {l : List UInt8} (h : BufAt w A l cap) (B o m c : Nat) (y : List UInt8) (hy : ∀ j x, y[j]? = some x → w.cell? ⟨B, o + j, none⟩ = some (.int .u8 (x.toNat : Int)))
    (hm : y.length = m) (hlim : l.length + m ≤ 70368744177664) (ty : TypeId) :
    ∃ g cap' w', (Builtin.append_ #[35, 35] ty #[.slice (some ⟨A, 0, none⟩) l.length cap, .slice (some ⟨B, o, none⟩) m c]).run Tryd.prog w = .ok (.slice (some ⟨g, 0, none⟩) (l.length + m) cap') w' ∧
      BufAt w' g (l ++ y) cap' ∧ But [A] w w' ∧ (g = A ∨ g = w.heap.size) ∧ ∀ j, j < l.length → w'.cell? ⟨A, j, none⟩ = w.cell? ⟨A, j, none⟩ := by
  obtain ⟨i, hi, hz, hz1, hz2⟩ := info_parts info_byte
  have hbl : (Lib.byteCells y).length = m := by rw [Lib.byteCells_length, hm]
  have hone : ∀ u ∈ Lib.byteCells y, u.oneCell' = true := fun u hu => by
    obtain ⟨_, _, rfl⟩ := List.mem_map.1 hu
    rfl
  have hs : Src Tryd.prog i.size 35 (.slice (some ⟨B, o, none⟩) m c) m (Lib.byteCells y) w := Src.ofSlice w Tryd.underlying35 _ m c _ (by rw [hbl, hz1, Nat.mul_one]) (fun j u hu => by
    simp only [Lib.byteCells, List.getElem?_map, Option.map_eq_some_iff] at hu
    obtain ⟨x, hx, rfl⟩ := hu
    rw [Addr.add_lit]
    exact hy j x hx) hone
  by_cases hr : l.length + m ≤ cap
  · have hrun := run_append_room_src (P := Tryd.prog) w 35 35 ty 5 i Tryd.underlying35 hi A 0 l.length cap _ m _ hs hr (fun j hj => by rw [hz1]; rw [hbl] at hj; simpa using h.room (l.length + j) (by omega)) (fun j hj => by rw [hz1]; rw [hbl] at hj; simpa using h.free (l.length + j) (by omega))
    rw [hz1, Nat.mul_one, Nat.zero_add] at hrun
    have hp := h.put y (by omega)
    refine ⟨A, cap, _, hrun, hp.1, hp.2, Or.inl rfl, fun j hj => ?_⟩
    rw [hp.1.bytes j l[j] (by rw [List.getElem?_append_left hj]; exact List.getElem?_eq_getElem hj), h.bytes j l[j] (List.getElem?_eq_getElem hj)]
  · have hold : (Builtin.firstCells i.size l.length (.slice (some ⟨A, 0, none⟩) l.length cap)).run Tryd.prog w.drew = .ok (Lib.byteCells l).toArray w.drew :=
      run_firstCells_some w.drew i.size l.length ⟨A, 0, none⟩ l.length cap (Lib.byteCells l) (by rw [hz1, Lib.byteCells_length, Nat.mul_one]) (fun j v hv => by
        simp only [Lib.byteCells, List.getElem?_map, Option.map_eq_some_iff] at hv
        obtain ⟨x, hx, rfl⟩ := hv
        rw [Addr.add_lit, Nat.zero_add]
        exact h.bytes j x hx)
    have hg := run_append_grow_src (P := Tryd.prog) w 35 35 ty 5 i (.int .u8 0) Tryd.underlying35 hi hz (some ⟨A, 0, none⟩) l.length cap (Lib.byteCells l) hold _ m _ hs (by omega) (by omega) (by rw [hz2]; exact growslice_fits (by omega) (by omega))
    have hge := grownCap_ge w (l.length + m) cap 5
    have hlen : (l ++ y).length = l.length + m := by rw [List.length_append, hm]
    refine ⟨w.heap.size, _, _, hg, ?_, ((But.refl [A] w).drew).alloc _, Or.inr rfl, fun j _ => (((But.refl [] w).drew).alloc _).cell (p := ⟨A, j, none⟩) h.lt (by simp)⟩
    have hh := heap_alloc_new w.drew (.cells ((Lib.byteCells l ++ Lib.byteCells y).toArray ++ Builtin.zeroCells (Value.int .u8 0).cells (grownCap w (l.length + m) cap 5 - (l.length + m))) 5)
    rw [show w.drew.heap.size = w.heap.size from rfl] at hh
    have e : Lib.byteCells l ++ Lib.byteCells y = Lib.byteCells (l ++ y) := (Lib.byteCells_append l y).symm
    have hsz : ((Lib.byteCells l ++ Lib.byteCells y).toArray ++ Builtin.zeroCells (Value.int .u8 0).cells (grownCap w (l.length + m) cap 5 - (l.length + m))).size = grownCap w (l.length + m) cap 5 := by
      have hz1 : (Value.int IntKind.u8 0).cells.size = 1 := rfl
      simp only [Array.size_append, List.size_toArray, size_zeroCells, hz1, List.length_append, Lib.byteCells_length]
      omega
    refine ⟨fun j x hx => ?_, fun j hj => ?_, fun j hj => ?_, by rw [hlen]; exact hge, by simp, by have := grownCap_le_maxLen w (l.length + m) cap 5 (by unfold maxLen; omega); unfold maxLen at this; omega⟩
    · rw [cell_of_row _ _ j _ _ _ hh]
      have hjl : j < (Lib.byteCells (l ++ y)).length := by
        have := (List.getElem?_eq_some_iff.1 hx).1
        simpa [Lib.byteCells] using this
      rw [e, Array.getElem?_append_left (by simpa using hjl)]
      rw [List.getElem?_toArray]
      unfold Lib.byteCells
      rw [List.getElem?_map, hx]
      rfl
    · rw [cell_of_row _ _ j _ _ _ hh]
      rw [Array.getElem?_eq_getElem (by rw [hsz]; exact hj)]
      rfl
    · exact frozen_of_row _ _ j _ _ hh

theorem BufAt.append_row {w : World} {A cap : Nat} {l : List UInt8} (h : BufAt w A l cap) (B o m c : Nat) (y : List UInt8) (hy : ∀ j x, y[j]? = some x → w.cell? ⟨B, o + j, none⟩ = some (.int .u8 (x.toNat : Int)))
    (hm : y.length = m) (hlim : l.length + m ≤ 70368744177664) (ty : TypeId) :
    ∃ g cap' w', (Builtin.append_ #[35, 35] ty #[.slice (some ⟨A, 0, none⟩) l.length cap, .slice (some ⟨B, o, none⟩) m c]).run Tryd.prog w = .ok (.slice (some ⟨g, 0, none⟩) (l.length + m) cap') w' ∧
      BufAt w' g (l ++ y) cap' ∧ But [A] w w' ∧ (g = A ∨ g = w.heap.size) := by
  obtain ⟨g, c', w', h1, h2, h3, h4, _⟩ := h.append_row2 B o m c y hy hm hlim ty
  exact ⟨g, c', w', h1, h2, h3, h4⟩

theorem app_buf {w : World} {ops : Array Oper} {rest : List Oper} {o : Oper} {a : Act} {Q : Exit → Act → World → Prop} (hgd : o.guard = none) (s x : Operand)
    (ho : o.op = .call { callee := .builtin .append, args := #[s, x], argTypes := #[35, 35] }) (A n cap : Nat) (l : List UInt8) (hs : a.eval s = .slice (some ⟨A, 0, none⟩) n cap) (hn : l.length = n) (hbuf : BufAt w A l cap)
    (B p m c : Nat) (y : List UInt8) (hx : a.eval x = .slice (some ⟨B, p, none⟩) m c) (hy : ∀ j x, y[j]? = some x → w.cell? ⟨B, p + j, none⟩ = some (.int .u8 (x.toNat : Int))) (hm : y.length = m) (hlim : n + m ≤ 70368744177664)
    (h : ∀ g cap' w', Hid (BufAt w' g (l ++ y) cap') → Hid (But [A] w w') → (g = A ∨ g = w.heap.size) → wpList Tryd.prog ops Q rest (a.put o.dst (.slice (some ⟨g, 0, none⟩) (n + m) cap')) w') : wpList Tryd.prog ops Q (o :: rest) a w := by
  subst hn
  obtain ⟨g, cap', w', hr, hb, hbut, hg⟩ := hbuf.append_row B p m c y hy hm hlim o.type
  exact app_step hgd s x _ _ ho _ _ _ hs hx hr (h g cap' w' (Lib.hid hb) (Lib.hid hbut) hg)
theorem lit1 (w : World) (b : UInt8) (v : Int) (hv : v = (b.toNat : Int)) : ∀ j x, [b][j]? = some x → (w.alloc (.cells #[.int .u8 v] 5)).cell? ⟨w.heap.size, 0 + j, none⟩ = some (.int .u8 (x.toNat : Int)) := by
  intro j x hx
  have hj : j = 0 := by
    have := (List.getElem?_eq_some_iff.1 hx).1
    simp at this; omega
  subst hj
  obtain rfl : b = x := by simpa using hx
  rw [cell_of_row _ _ _ _ _ _ (heap_alloc_new w _), hv]
  rfl
end Go.Proofs.YtbffilfacmdhdaaDoor.Mem
