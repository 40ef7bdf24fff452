/-
  Proved: plain laws of rows of words in memory.
  Conditions: each law's own.
-/
import Derived.Test.YtdlimgghcpbkcaaShaR
namespace Go.Proofs.Ytdlimgghcpbkcaa.sha
open Go.RowKit Mem
set_option linter.unusedVariables false

/-- The cells of a row of words. -/
def arr (n : Nat) (f : Nat → BitVec 32) : Array Value := ((List.range n).map fun i => Value.int .u32 (iv (f i))).toArray
theorem arr_size (n : Nat) (f : Nat → BitVec 32) : (arr n f).size = n := by simp [arr]
theorem arr_get {n : Nat} (f : Nat → BitVec 32) {j : Nat} (h : j < n) : (arr n f)[j]? = some (.int .u32 (iv (f j))) := by simp [arr, h]
theorem arr_congr {n : Nat} {f g : Nat → BitVec 32} (h : ∀ i, i < n → f i = g i) : arr n f = arr n g := by
  unfold arr
  congr 1
  apply List.map_congr_left
  intro i hi
  rw [h i (by simpa using hi)]
theorem arr_set {n : Nat} (f : Nat → BitVec 32) (j : Nat) (x : BitVec 32) : (arr n f).setIfInBounds j (.int .u32 (iv x)) = arr n (fun i => if i = j then x else f i) := by
  apply Array.ext_getElem?
  intro i
  rw [Array.getElem?_setIfInBounds]
  by_cases hj : j = i
  · subst hj
    by_cases hn : j < n
    · rw [if_pos rfl, if_pos (by rw [arr_size]; exact hn), arr_get _ hn, if_pos rfl]
    · simp [hn, arr]
  · rw [if_neg hj]
    by_cases hn : i < n
    · rw [arr_get _ hn, arr_get _ hn, if_neg (fun e => hj e.symm)]
    · simp [arr, hn]

/-- A block that is a row of words. -/
def Row (w : World) (k n : Nat) (T : TypeId) (f : Nat → BitVec 32) : Prop := w.heap[k]? = some (.cells (arr n f) T (0, 0))
theorem Row.cell {w : World} {k n : Nat} {T : TypeId} {f : Nat → BitVec 32} (h : Row w k n T f) {j : Nat} (hj : j < n) : w.cell? ⟨k, j, none⟩ = some (.int .u32 (iv (f j))) := by
  rw [cell_of_row _ _ j _ _ _ h]; exact arr_get f hj
theorem Row.frozen {w : World} {k n : Nat} {T : TypeId} {f : Nat → BitVec 32} (h : Row w k n T f) (j : Nat) : w.frozen? ⟨k, j, none⟩ = false := frozen_of_row _ _ j _ _ h
theorem Row.congr {w : World} {k n : Nat} {T : TypeId} {f g : Nat → BitVec 32} (h : Row w k n T f) (e : ∀ i, i < n → f i = g i) : Row w k n T g := by
  unfold Row at *; rw [h, arr_congr e]
theorem Row.set {w : World} {k n : Nat} {T : TypeId} {f : Nat → BitVec 32} (h : Row w k n T f) (j : Nat) (x : BitVec 32) : Row (w.setCell ⟨k, j, none⟩ (.int .u32 (iv x))) k n T (fun i => if i = j then x else f i) := by
  unfold Row at *
  rw [← arr_set]
  simp [World.setCell, Array.getElem?_modify, h]
theorem Row.old {w w' : World} {k n : Nat} {T : TypeId} {f : Nat → BitVec 32} (h : Row w k n T f) {S : List Nat} (b : But S w w') (hk : k ∉ S) : Row w' k n T f := b.heapAt h hk
theorem Row.lt {w : World} {k n : Nat} {T : TypeId} {f : Nat → BitVec 32} (h : Row w k n T f) : k < w.heap.size := (Array.getElem?_eq_some_iff.1 h).1
/-- Five words. -/
def S5.f (s : S5) (i : Nat) : BitVec 32 := match i with | 0 => s.a | 1 => s.b | 2 => s.c | 3 => s.d | _ => s.e
theorem arr5 (f : Nat → BitVec 32) : arr 5 f = #[.int .u32 (iv (f 0)), .int .u32 (iv (f 1)), .int .u32 (iv (f 2)), .int .u32 (iv (f 3)), .int .u32 (iv (f 4))] := rfl
end Go.Proofs.Ytdlimgghcpbkcaa.sha
