/-
  Proved: plain laws on a block that is known whole (a struct's cells), on rows of bytes that are read, and on a world's steps with blocks of one's own.
  Conditions: each law's own.
-/
import Derived.Test.YtbffilfacmdhdaaDoorBuf
import Derived.Lib.Hide
namespace Go.Proofs.YtbffilfacmdhdaaDoor.rw
open Go.RowKit Mem
set_option linter.unusedVariables false

/-- Block X holds just the cells l. -/
def Rw (w : World) (X : Nat) (l : List Value) (T : TypeId) : Prop := w.heap[X]? = some (.cells l.toArray T (0, 0))
theorem Rw.cell {w : World} {X : Nat} {l : List Value} {T : TypeId} (h : Rw w X l T) (j : Nat) : w.cell? ⟨X, j, none⟩ = l[j]? := by
  rw [cell_of_row _ _ j _ _ _ h]; simp
theorem Rw.fz {w : World} {X : Nat} {l : List Value} {T : TypeId} (h : Rw w X l T) (j : Nat) : w.frozen? ⟨X, j, none⟩ = false := frozen_of_row _ _ j _ _ h
theorem Rw.set {w : World} {X : Nat} {l : List Value} {T : TypeId} (h : Rw w X l T) (j : Nat) (v : Value) : Rw (w.setCell ⟨X, j, none⟩ v) X (l.set j v) T := by
  unfold Rw at *
  simp [World.setCell, Array.getElem?_modify, h]
theorem Rw.lt {w : World} {X : Nat} {l : List Value} {T : TypeId} (h : Rw w X l T) : X < w.heap.size := (Array.getElem?_eq_some_iff.1 h).1
theorem Rw.but {S : List Nat} {w w' : World} {X : Nat} {l : List Value} {T : TypeId} (h : Rw w X l T) (hb : But S w w') (hn : X ∉ S) : Rw w' X l T := hb.heapAt h hn
theorem Rw.new (w : World) (l : List Value) (T : TypeId) : Rw (w.alloc (.cells l.toArray T)) w.heap.size l T := heap_alloc_new w _
theorem Rw.drew {w : World} {X : Nat} {l : List Value} {T : TypeId} (h : Rw w X l T) : Rw w.drew X l T := h
theorem alloc_size (w : World) (o : Obj) : (w.alloc o).heap.size = w.heap.size + 1 := by simp
theorem set_size (w : World) (p : Addr) (v : Value) : (w.setCell p v).heap.size = w.heap.size := by simp [World.setCell]
theorem Below.at {B : Nat} {w w' : World} {k : Nat} {o : Obj} (h : Below B w w') (hk : k < B) (hc : w.heap[k]? = some o) : w'.heap[k]? = some o := (h.block k hk).trans hc
theorem Rw.below {B : Nat} {w w' : World} {X : Nat} {l : List Value} {T : TypeId} (h : Rw w X l T) (hb : Below B w w') (hn : X < B) : Rw w' X l T := Below.at hb hn h

/-- The bytes of l lie behind the address a, as a slice's elements. -/
def Bs (w : World) (a : Option Addr) (l : List UInt8) : Prop :=
  (a = none ∧ l = []) ∨ ∃ A off, a = some ⟨A, off, none⟩ ∧ ∀ j x, l[j]? = some x → w.cell? ⟨A, off + j, none⟩ = some (.int .u8 (x.toNat : Int))
theorem Bs.nil (w : World) : Bs w none [] := .inl ⟨rfl, rfl⟩
theorem Bs.but {S : List Nat} {w w' : World} {a : Option Addr} {l : List UInt8} (h : Bs w a l) (hb : But S w w') (hn : ∀ A off, a = some ⟨A, off, none⟩ → A ∉ S) : Bs w' a l := by
  rcases h with h | ⟨A, off, rfl, hc⟩
  · exact .inl h
  · exact .inr ⟨A, off, rfl, fun j x hx => hb.cellAt (hc j x hx) (hn A off rfl)⟩
theorem Bs.below {B : Nat} {w w' : World} {a : Option Addr} {l : List UInt8} (h : Bs w a l) (hb : Below B w w') (hn : ∀ A off, a = some ⟨A, off, none⟩ → A < B) : Bs w' a l := by
  rcases h with h | ⟨A, off, rfl, hc⟩
  · exact .inl h
  · exact .inr ⟨A, off, rfl, fun j x hx => (hb.cell (p := ⟨A, off + j, none⟩) (hn A off rfl)).trans (hc j x hx)⟩
theorem Bs.get {w : World} {a : Option Addr} {l : List UInt8} (h : Bs w a l) {j : Nat} (hj : j < l.length) : ∃ A off, a = some ⟨A, off, none⟩ ∧ w.cell? ⟨A, off + j, none⟩ = some (.int .u8 ((l[j]'hj).toNat : Int)) := by
  rcases h with ⟨_, rfl⟩ | ⟨A, off, rfl, hc⟩
  · simp at hj
  · exact ⟨A, off, rfl, hc j _ (List.getElem?_eq_getElem hj)⟩
/-- string(b) of such a slice. -/
theorem Bs.str {w : World} {a : Option Addr} {l : List UInt8} (h : Bs w a l) (c : Nat) : (convert 35 9 (.slice a l.length c)).run Tryd.prog w = .ok (.string ⟨l.toArray⟩) w := by
  rcases h with ⟨rfl, rfl⟩ | ⟨A, off, rfl, hc⟩
  · exact run_convert_bytes_nil w 35 5 Tryd.underlying35 Tryd.underlying5 0 c 9 Tryd.underlying9
  · have hs : (⟨l.toArray⟩ : ByteArray).size = l.length := by simp [ByteArray.size]
    have := conv_str w 35 5 9 Tryd.underlying35 Tryd.underlying5 Tryd.underlying9 A off c ⟨l.toArray⟩ (fun j hj => by
      have hj' : j < l.length := by rw [hs] at hj; exact hj
      simp only [List.getD]
      rw [List.getElem?_eq_getElem hj']
      exact hc j _ (List.getElem?_eq_getElem hj'))
    rw [hs] at this
    exact this
end Go.Proofs.YtbffilfacmdhdaaDoor.rw
