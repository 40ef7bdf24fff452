/-
  Proved: plain laws on memory that the walks of this seat share: a world that is as another one but for some blocks, and the like.
  Conditions: each law's own.
-/
import Derived.Test.YtbffilfacmdhdaaDoorRows
import Derived.WalkKit
import Derived.ProofKit
import Derived.Below
import Derived.StillTailTactics
import Derived.Lib.ConvBytes
import Derived.Lib.LazyBuf
import Derived.Great.BuildSlice
import Derived.Great.Walk
import Derived.Deep.AppendLies
import Derived.Laws.BytesArg
namespace Go.Proofs.YtbffilfacmdhdaaDoor.Mem
open Go.RowKit

/-- The world w' is as w was, but for the blocks of a list, and new blocks. -/
structure But (S : List Nat) (w w' : World) : Prop where
  os : w'.os = w.os
  tape : w'.tape = w.tape
  output : w'.output = w.output
  size : w.heap.size ≤ w'.heap.size
  block : ∀ k, k < w.heap.size → k ∉ S → w'.heap[k]? = w.heap[k]?

theorem But.refl (S : List Nat) (w : World) : But S w w := ⟨rfl, rfl, rfl, Nat.le_refl _, fun _ _ _ => rfl⟩
theorem But.trans {S : List Nat} {a b c : World} (h : But S a b) (k : But S b c) : But S a c :=
  ⟨k.os.trans h.os, k.tape.trans h.tape, k.output.trans h.output, Nat.le_trans h.size k.size, fun i hi hn => (k.block i (Nat.lt_of_lt_of_le hi h.size) hn).trans (h.block i hi hn)⟩
theorem But.mono {S T : List Nat} {w w' : World} (h : But S w w') (hs : ∀ k, k ∈ S → k ∈ T) : But T w w' :=
  ⟨h.os, h.tape, h.output, h.size, fun k hk hn => h.block k hk (fun e => hn (hs k e))⟩
/-- What a step writes of blocks that are new to the whole counts for nothing. -/
theorem But.join {S T U : List Nat} {a b c : World} (h : But S a b) (k : But T b c) (hs : ∀ x, x ∈ S → x ∈ U) (ht : ∀ x, x ∈ T → x < a.heap.size → x ∈ U) : But U a c :=
  ⟨k.os.trans h.os, k.tape.trans h.tape, k.output.trans h.output, Nat.le_trans h.size k.size,
   fun i hi hn => (k.block i (Nat.lt_of_lt_of_le hi h.size) (fun e => hn (ht i e hi))).trans (h.block i hi (fun e => hn (hs i e)))⟩
theorem But.drew {S : List Nat} {a w : World} (h : But S a w) : But S a w.drew := ⟨h.os, h.tape, h.output, h.size, h.block⟩
theorem But.drewN {S : List Nat} {a w : World} {n : Nat} (h : But S a w) : But S a (w.drewN n) := ⟨h.os, h.tape, h.output, h.size, h.block⟩
theorem But.alloc {S : List Nat} {a w : World} (h : But S a w) (o : Obj) : But S a (w.alloc o) :=
  h.trans ⟨rfl, rfl, rfl, by simp, fun k hk _ => Below.heap_alloc _ _ _ hk⟩
theorem But.setCell {S : List Nat} {a w : World} (h : But S a w) {p : Addr} (hp : p.block ∈ S ∨ a.heap.size ≤ p.block) (u : Value) : But S a (w.setCell p u) :=
  ⟨h.os, h.tape, h.output, by simpa [World.setCell] using h.size, fun k hk hn => (Below.heap_setCell _ _ _ _ (fun e => by rcases hp with hp | hp; exact hn (e ▸ hp); omega)).trans (h.block k hk hn)⟩
theorem size_setCells (b : Nat) : ∀ (vs : List Value) (o : Nat) (w : World), (w.setCells b o vs).heap.size = w.heap.size
  | [], _, _ => rfl
  | v :: r, o, w => by rw [World.setCells, size_setCells b r]; simp [World.setCell]
theorem tape_setCells (b : Nat) : ∀ (vs : List Value) (o : Nat) (w : World), (w.setCells b o vs).tape = w.tape
  | [], _, _ => rfl
  | v :: r, o, w => by rw [World.setCells, tape_setCells b r]; rfl
theorem os_setCells (b : Nat) : ∀ (vs : List Value) (o : Nat) (w : World), (w.setCells b o vs).os = w.os
  | [], _, _ => rfl
  | v :: r, o, w => by rw [World.setCells, os_setCells b r]; rfl
theorem output_setCells (b : Nat) : ∀ (vs : List Value) (o : Nat) (w : World), (w.setCells b o vs).output = w.output
  | [], _, _ => rfl
  | v :: r, o, w => by rw [World.setCells, output_setCells b r]; rfl
theorem block_setCells (b : Nat) : ∀ (vs : List Value) (o : Nat) (w : World) (k : Nat), k ≠ b → (w.setCells b o vs).heap[k]? = w.heap[k]?
  | [], _, _, _, _ => rfl
  | v :: r, o, w, k, h => by rw [World.setCells, block_setCells b r _ _ k h]; exact Below.heap_setCell _ _ _ _ h
theorem But.setCells {S : List Nat} {a w : World} (h : But S a w) {b : Nat} (hp : b ∈ S ∨ a.heap.size ≤ b) (o : Nat) (vs : List Value) : But S a (w.setCells b o vs) :=
  ⟨(os_setCells b vs o w).trans h.os, (tape_setCells b vs o w).trans h.tape, (output_setCells b vs o w).trans h.output, by rw [size_setCells]; exact h.size,
   fun k hk hn => (block_setCells b vs o w k (fun e => by rcases hp with hp | hp; exact hn (e ▸ hp); omega)).trans (h.block k hk hn)⟩
theorem But.grown {S : List Nat} {a w w' : World} {row : Option Nat} (h : But S a w) (hg : w.grownBy w' row) (hr : ∀ k, row = some k → k ∈ S ∨ a.heap.size ≤ k) : But S a w' :=
  ⟨hg.os.trans h.os, hg.tape.trans h.tape, hg.output.trans h.output, Nat.le_trans h.size hg.size,
   fun k hk hn => (hg.block k (Nat.lt_of_lt_of_le hk h.size) (fun e => by rcases hr k e.symm with hp | hp; exact hn hp; omega)).trans (h.block k hk hn)⟩
theorem But.ofBelow {S : List Nat} {w w' : World} (h : Below w.heap.size w w') : But S w w' := ⟨h.os, h.tape, h.output, h.size, fun k hk _ => h.block k hk⟩
theorem But.below {S : List Nat} {w w' : World} (h : But S w w') (B : Nat) (hB : B ≤ w.heap.size) (hs : ∀ k, k ∈ S → B ≤ k) : Below B w w' :=
  ⟨h.os, h.tape, h.output, h.size, fun k hk => h.block k (by omega) (fun e => by have := hs k e; omega)⟩
theorem But.toBelow {w w' : World} (h : But [] w w') : Below w.heap.size w w' := h.below _ (Nat.le_refl _) (fun _ e => by cases e)
theorem But.cell {S : List Nat} {w w' : World} (h : But S w w') {p : Addr} (hp : p.block < w.heap.size) (hn : p.block ∉ S) : w'.cell? p = w.cell? p := World.cell?_of_block (h.block p.block hp hn)
theorem But.frozen {S : List Nat} {w w' : World} (h : But S w w') {p : Addr} (hp : p.block < w.heap.size) (hn : p.block ∉ S) : w'.frozen? p = w.frozen? p := World.frozen?_of_block (h.block p.block hp hn)
theorem But.cellAt {S : List Nat} {w w' : World} (h : But S w w') {p : Addr} {v : Value} (hc : w.cell? p = some v) (hn : p.block ∉ S) : w'.cell? p = some v := (h.cell (block_lt_of_cell hc) hn).trans hc
theorem But.heapAt {S : List Nat} {w w' : World} (h : But S w w') {k : Nat} {o : Obj} (hc : w.heap[k]? = some o) (hn : k ∉ S) : w'.heap[k]? = some o :=
  (h.block k (Array.getElem?_eq_some_iff.1 hc).1 hn).trans hc

theorem bytes_but (S : List Nat) (w : World) (e : TypeId) (s : ByteArray) : But S w (Lib.bytesWorld w e s) :=
  ⟨rfl, rfl, rfl, by rw [Lib.bytesWorld_size]; omega, fun k hk _ => Lib.bytesWorld_at_old w e s k hk⟩

/-- A region that draws its order, whose first n operations only read, and the others stand in one order. -/
theorem region_tail {id : Nat} {Q : Exit → Act → World → Prop} {a : Act} {w : World} {l : List Oper} (n : Nat) (hB : Region.lexTailB .any l.toArray n = true)
    (h : wpStill Tryd.prog l.toArray w.drew (fun a' => wpList Tryd.prog l.toArray Q (l.drop n) a' w.drew) (l.take n) a) : (Code.region id l.toArray true).wp Tryd.prog Q a w :=
  wp_region_still_tail n (by kernel_rfl) hB h

/-- copy of the first bytes of a string into a row. -/
theorem copy_str (w : World) (dT sT ty elem : TypeId) (b o m dCap : Nat) (t : ByteArray)
    (hu : Tryd.prog.underlying dT = some (.slice elem)) (hz : ∀ w, (Go.sizeOf elem).run Tryd.prog w = .ok 1 w) (hle : m ≤ t.size)
    (hc : ∀ j, j < m → (w.cell? ⟨b, o + j, none⟩).isSome = true) (hf : ∀ j, j < m → w.frozen? ⟨b, o + j, none⟩ = false) :
    (Builtin.copy_ #[dT, sT] ty #[.slice (some ⟨b, o, none⟩) m dCap, .string t]).run Tryd.prog w = .ok (goInt m) (w.setCells b o ((t.data.toList.take m).map fun x => Value.int .u8 (x.toNat : Int))) := by
  have hmin : Nat.min t.size m = m := Nat.min_eq_right hle
  have hl : ((t.data.toList.take m).map fun x => Value.int .u8 (x.toNat : Int)).length = m := by
    rw [List.length_map, List.length_take, ← Lib.size_eq]; exact Nat.min_eq_left hle
  have hst := run_storeCells_cells (P := Tryd.prog) b o ((t.data.toList.take m).map fun x => Value.int .u8 (x.toNat : Int)) 0 w (by rw [hl]; simpa using hc) (by rw [hl]; simpa using hf) (by
    intro v hv
    obtain ⟨x, _, rfl⟩ := List.mem_map.1 hv
    rfl)
  simp [Builtin.copy_, run_underlying hu, Builtin.lenOf, Builtin.firstCells, hz, hmin]
  rw [← List.map_take, hst]
  rfl

/-- A package-level variable of one cell: it holds something. -/
theorem cell_of_shaped {w : World} {g : Nat} {t : TypeId} {zero : Array Value} (h : w.ShapedOpen Tryd.prog) (hg : g < Tryd.prog.globals.size)
    (h0 : ((begin Tryd.prog (fun _ _ => 0) default).world.heap[g]?).bind Obj.row? = some (zero, t)) (hz : zero.size = 1) : ∃ v, w.cell? ⟨g, 0, none⟩ = some v := by
  obtain ⟨cs, hh, hs, _⟩ := h.1 g zero t hg h0
  have h1 : 0 < cs.size := by omega
  exact ⟨cs[0], by simp [World.cell?, hh, h1]⟩

/-- An owned row with an element: where it lies, and what its cells hold. -/
theorem own_cells {w : World} {B : Nat} {e : TypeId} {v : Value} {n : Nat} {xs : List Value} (h : w.ownsRow B e 1 v n xs) (hn : 0 < n) :
    ∃ g cap, v = .slice (some ⟨g, 0, none⟩) n cap ∧ B ≤ g ∧ n ≤ cap ∧ cap ≤ maxLen ∧ ∀ j, j < n → w.cell? ⟨g, j, none⟩ = xs[j]? := by
  rcases h.2 with ⟨_, h0⟩ | ⟨g, cap, cur, hv, hb, hg, hc, hm, hs, ht⟩
  · omega
  · refine ⟨g, cap, hv, hb, hc, hm, fun j hj => ?_⟩
    rw [cell_of_row _ _ j _ _ _ hg, ← ht]
    simp [hj]
theorem str_nums (s : ByteArray) : strOfNums (s.data.toList.map fun c => (c.toNat : Int)) = s := by
  cases s with
  | mk d =>
    have e : ((fun n : Int => UInt8.ofNat n.toNat) ∘ fun c : UInt8 => (c.toNat : Int)) = id := by funext c; simp
    simp [strOfNums, e]
/-- string(b) of a row of bytes in memory. -/
theorem conv_str (w : World) (src e dst : TypeId) (hs : Tryd.prog.underlying src = some (.slice e)) (he : Tryd.prog.underlying e = some (.int .u8)) (hd : Tryd.prog.underlying dst = some .string)
    (b off cap : Nat) (s : ByteArray) (hc : ∀ j, j < s.size → w.cell? ⟨b, off + j, none⟩ = some (.int .u8 ((s.data.toList.getD j 0).toNat : Int))) :
    (convert src dst (.slice (some ⟨b, off, none⟩) s.size cap)).run Tryd.prog w = .ok (.string s) w := by
  have h := run_convert_bytes_arg (P := Tryd.prog) w src e hs he b off s.size cap (s.data.toList.map fun c => (c.toNat : Int)) (by simp) (fun i hi => by
    rw [hc i hi]
    have : i < s.data.toList.length := by simpa using hi
    simp [List.getD, List.getElem?_eq_getElem this]) dst hd
  rw [str_nums] at h
  exact h
end Go.Proofs.YtbffilfacmdhdaaDoor.Mem
