/-
  Proved: plain laws on memory that the walks of this seat share: a world that is as another one but for some blocks, and the like · plain laws on well formed UTF-8, and on finite doubles: no program in sight · a plain model of a decoder of lines over a list of bytes, and its plain laws: no program in sight · plain laws on a row of bytes with spare room: what a conversion, an append of a string, a copy and stores leave in it · plain laws on a block that is known whole (a struct's cells), on rows of bytes that are read, and on a world's steps with blocks of one's own · append of a row's bytes to bytes in a row with spare room, as a law for the walk.
  Conditions: each law's own; a text of at most 4000 bytes where one is read.
-/
import Derived.Test.YtlcbcgillekphaaGreatDoorRows
import Derived.WalkKit
import Derived.ProofKit
import Derived.Below
import Derived.StillTailTactics
import Derived.Lib.ConvBytes
import Derived.Lib.LazyBuf
import Derived.Great.BuildSlice
import Derived.Great.Walk
import Derived.Deep.AppendLies
import Derived.Laws.BytesArg
import Derived.Lib.AppendStr
import Derived.Lib.BufferAt
import Derived.Deep.MidRow
import Derived.Laws.MakeOwn
import Derived.Lib.Hide
import Derived.Deep.AppendSrc
namespace Go.Proofs.YtlcbcgillekphaaGreatDoor.Mem
open Go.RowKit

/-- The world w' is as w was, but for the blocks of a list, and new blocks. -/
structure But (S : List Nat) (w w' : World) : Prop where
  os : w'.os = w.os
  tape : w'.tape = w.tape
  output : w'.output = w.output
  size : w.heap.size ≤ w'.heap.size
  block : ∀ k, k < w.heap.size → k ∉ S → w'.heap[k]? = w.heap[k]?

theorem But.refl (S : List Nat) (w : World) : But S w w := ⟨rfl, rfl, rfl, Nat.le_refl _, fun _ _ _ => rfl⟩
theorem But.trans {S : List Nat} {a b c : World} (h : But S a b) (k : But S b c) : But S a c :=
  ⟨k.os.trans h.os, k.tape.trans h.tape, k.output.trans h.output, Nat.le_trans h.size k.size, fun i hi hn => (k.block i (Nat.lt_of_lt_of_le hi h.size) hn).trans (h.block i hi hn)⟩
theorem But.mono {S T : List Nat} {w w' : World} (h : But S w w') (hs : ∀ k, k ∈ S → k ∈ T) : But T w w' :=
  ⟨h.os, h.tape, h.output, h.size, fun k hk hn => h.block k hk (fun e => hn (hs k e))⟩
/-- What a step writes of blocks that are new to the whole counts for nothing. -/
theorem But.join {S T U : List Nat} {a b c : World} (h : But S a b) (k : But T b c) (hs : ∀ x, x ∈ S → x ∈ U) (ht : ∀ x, x ∈ T → x < a.heap.size → x ∈ U) : But U a c :=
  ⟨k.os.trans h.os, k.tape.trans h.tape, k.output.trans h.output, Nat.le_trans h.size k.size,
   fun i hi hn => (k.block i (Nat.lt_of_lt_of_le hi h.size) (fun e => hn (ht i e hi))).trans (h.block i hi (fun e => hn (hs i e)))⟩
theorem But.drew {S : List Nat} {a w : World} (h : But S a w) : But S a w.drew := ⟨h.os, h.tape, h.output, h.size, h.block⟩
theorem But.drewN {S : List Nat} {a w : World} {n : Nat} (h : But S a w) : But S a (w.drewN n) := ⟨h.os, h.tape, h.output, h.size, h.block⟩
theorem But.alloc {S : List Nat} {a w : World} (h : But S a w) (o : Obj) : But S a (w.alloc o) :=
  h.trans ⟨rfl, rfl, rfl, by simp, fun k hk _ => Below.heap_alloc _ _ _ hk⟩
theorem But.setCell {S : List Nat} {a w : World} (h : But S a w) {p : Addr} (hp : p.block ∈ S ∨ a.heap.size ≤ p.block) (u : Value) : But S a (w.setCell p u) :=
  ⟨h.os, h.tape, h.output, by simpa [World.setCell] using h.size, fun k hk hn => (Below.heap_setCell _ _ _ _ (fun e => by rcases hp with hp | hp; exact hn (e ▸ hp); omega)).trans (h.block k hk hn)⟩
theorem size_setCells (b : Nat) : ∀ (vs : List Value) (o : Nat) (w : World), (w.setCells b o vs).heap.size = w.heap.size
  | [], _, _ => rfl
  | v :: r, o, w => by rw [World.setCells, size_setCells b r]; simp [World.setCell]
theorem tape_setCells (b : Nat) : ∀ (vs : List Value) (o : Nat) (w : World), (w.setCells b o vs).tape = w.tape
  | [], _, _ => rfl
  | v :: r, o, w => by rw [World.setCells, tape_setCells b r]; rfl
theorem os_setCells (b : Nat) : ∀ (vs : List Value) (o : Nat) (w : World), (w.setCells b o vs).os = w.os
  | [], _, _ => rfl
  | v :: r, o, w => by rw [World.setCells, os_setCells b r]; rfl
theorem output_setCells (b : Nat) : ∀ (vs : List Value) (o : Nat) (w : World), (w.setCells b o vs).output = w.output
  | [], _, _ => rfl
  | v :: r, o, w => by rw [World.setCells, output_setCells b r]; rfl
theorem block_setCells (b : Nat) : ∀ (vs : List Value) (o : Nat) (w : World) (k : Nat), k ≠ b → (w.setCells b o vs).heap[k]? = w.heap[k]?
  | [], _, _, _, _ => rfl
  | v :: r, o, w, k, h => by rw [World.setCells, block_setCells b r _ _ k h]; exact Below.heap_setCell _ _ _ _ h
theorem But.setCells {S : List Nat} {a w : World} (h : But S a w) {b : Nat} (hp : b ∈ S ∨ a.heap.size ≤ b) (o : Nat) (vs : List Value) : But S a (w.setCells b o vs) :=
  ⟨(os_setCells b vs o w).trans h.os, (tape_setCells b vs o w).trans h.tape, (output_setCells b vs o w).trans h.output, by rw [size_setCells]; exact h.size,
   fun k hk hn => (block_setCells b vs o w k (fun e => by rcases hp with hp | hp; exact hn (e ▸ hp); omega)).trans (h.block k hk hn)⟩
theorem But.grown {S : List Nat} {a w w' : World} {row : Option Nat} (h : But S a w) (hg : w.grownBy w' row) (hr : ∀ k, row = some k → k ∈ S ∨ a.heap.size ≤ k) : But S a w' :=
  ⟨hg.os.trans h.os, hg.tape.trans h.tape, hg.output.trans h.output, Nat.le_trans h.size hg.size,
   fun k hk hn => (hg.block k (Nat.lt_of_lt_of_le hk h.size) (fun e => by rcases hr k e.symm with hp | hp; exact hn hp; omega)).trans (h.block k hk hn)⟩
theorem But.ofBelow {S : List Nat} {w w' : World} (h : Below w.heap.size w w') : But S w w' := ⟨h.os, h.tape, h.output, h.size, fun k hk _ => h.block k hk⟩
theorem But.below {S : List Nat} {w w' : World} (h : But S w w') (B : Nat) (hB : B ≤ w.heap.size) (hs : ∀ k, k ∈ S → B ≤ k) : Below B w w' :=
  ⟨h.os, h.tape, h.output, h.size, fun k hk => h.block k (by omega) (fun e => by have := hs k e; omega)⟩
theorem But.toBelow {w w' : World} (h : But [] w w') : Below w.heap.size w w' := h.below _ (Nat.le_refl _) (fun _ e => by cases e)
theorem But.cell {S : List Nat} {w w' : World} (h : But S w w') {p : Addr} (hp : p.block < w.heap.size) (hn : p.block ∉ S) : w'.cell? p = w.cell? p := World.cell?_of_block (h.block p.block hp hn)
theorem But.frozen {S : List Nat} {w w' : World} (h : But S w w') {p : Addr} (hp : p.block < w.heap.size) (hn : p.block ∉ S) : w'.frozen? p = w.frozen? p := World.frozen?_of_block (h.block p.block hp hn)
theorem But.cellAt {S : List Nat} {w w' : World} (h : But S w w') {p : Addr} {v : Value} (hc : w.cell? p = some v) (hn : p.block ∉ S) : w'.cell? p = some v := (h.cell (block_lt_of_cell hc) hn).trans hc
theorem But.heapAt {S : List Nat} {w w' : World} (h : But S w w') {k : Nat} {o : Obj} (hc : w.heap[k]? = some o) (hn : k ∉ S) : w'.heap[k]? = some o :=
  (h.block k (Array.getElem?_eq_some_iff.1 hc).1 hn).trans hc

theorem bytes_but (S : List Nat) (w : World) (e : TypeId) (s : ByteArray) : But S w (Lib.bytesWorld w e s) :=
  ⟨rfl, rfl, rfl, by rw [Lib.bytesWorld_size]; omega, fun k hk _ => Lib.bytesWorld_at_old w e s k hk⟩

/-- A region that draws its order, whose first n operations only read, and the others stand in one order. -/
theorem region_tail {id : Nat} {Q : Exit → Act → World → Prop} {a : Act} {w : World} {l : List Oper} (n : Nat) (hB : Region.lexTailB .any l.toArray n = true)
    (h : wpStill Tryz.prog l.toArray w.drew (fun a' => wpList Tryz.prog l.toArray Q (l.drop n) a' w.drew) (l.take n) a) : (Code.region id l.toArray true).wp Tryz.prog Q a w :=
  wp_region_still_tail n (by kernel_rfl) hB h

/-- copy of the first bytes of a string into a row. -/
theorem copy_str (w : World) (dT sT ty elem : TypeId) (b o m dCap : Nat) (t : ByteArray)
    (hu : Tryz.prog.underlying dT = some (.slice elem)) (hz : ∀ w, (Go.sizeOf elem).run Tryz.prog w = .ok 1 w) (hle : m ≤ t.size)
    (hc : ∀ j, j < m → (w.cell? ⟨b, o + j, none⟩).isSome = true) (hf : ∀ j, j < m → w.frozen? ⟨b, o + j, none⟩ = false) :
    (Builtin.copy_ #[dT, sT] ty #[.slice (some ⟨b, o, none⟩) m dCap, .string t]).run Tryz.prog w = .ok (goInt m) (w.setCells b o ((t.data.toList.take m).map fun x => Value.int .u8 (x.toNat : Int))) := by
  have hmin : Nat.min t.size m = m := Nat.min_eq_right hle
  have hl : ((t.data.toList.take m).map fun x => Value.int .u8 (x.toNat : Int)).length = m := by
    rw [List.length_map, List.length_take, ← Lib.size_eq]; exact Nat.min_eq_left hle
  have hst := run_storeCells_cells (P := Tryz.prog) b o ((t.data.toList.take m).map fun x => Value.int .u8 (x.toNat : Int)) 0 w (by rw [hl]; simpa using hc) (by rw [hl]; simpa using hf) (by
    intro v hv
    obtain ⟨x, _, rfl⟩ := List.mem_map.1 hv
    rfl)
  simp [Builtin.copy_, run_underlying hu, Builtin.lenOf, Builtin.firstCells, hz, hmin]
  rw [← List.map_take, hst]
  rfl

/-- A package-level variable of one cell: it holds something. -/
theorem cell_of_shaped {w : World} {g : Nat} {t : TypeId} {zero : Array Value} (h : w.ShapedOpen Tryz.prog) (hg : g < Tryz.prog.globals.size)
    (h0 : ((begin Tryz.prog (fun _ _ => 0) default).world.heap[g]?).bind Obj.row? = some (zero, t)) (hz : zero.size = 1) : ∃ v, w.cell? ⟨g, 0, none⟩ = some v := by
  obtain ⟨cs, hh, hs, _⟩ := h.1 g zero t hg h0
  have h1 : 0 < cs.size := by omega
  exact ⟨cs[0], by simp [World.cell?, hh, h1]⟩

/-- An owned row with an element: where it lies, and what its cells hold. -/
theorem own_cells {w : World} {B : Nat} {e : TypeId} {v : Value} {n : Nat} {xs : List Value} (h : w.ownsRow B e 1 v n xs) (hn : 0 < n) :
    ∃ g cap, v = .slice (some ⟨g, 0, none⟩) n cap ∧ B ≤ g ∧ n ≤ cap ∧ cap ≤ maxLen ∧ ∀ j, j < n → w.cell? ⟨g, j, none⟩ = xs[j]? := by
  rcases h.2 with ⟨_, h0⟩ | ⟨g, cap, cur, hv, hb, hg, hc, hm, hs, ht⟩
  · omega
  · refine ⟨g, cap, hv, hb, hc, hm, fun j hj => ?_⟩
    rw [cell_of_row _ _ j _ _ _ hg, ← ht]
    simp [hj]
theorem str_nums (s : ByteArray) : strOfNums (s.data.toList.map fun c => (c.toNat : Int)) = s := by
  cases s with
  | mk d =>
    have e : ((fun n : Int => UInt8.ofNat n.toNat) ∘ fun c : UInt8 => (c.toNat : Int)) = id := by funext c; simp
    simp [strOfNums, e]
/-- string(b) of a row of bytes in memory. -/
theorem conv_str (w : World) (src e dst : TypeId) (hs : Tryz.prog.underlying src = some (.slice e)) (he : Tryz.prog.underlying e = some (.int .u8)) (hd : Tryz.prog.underlying dst = some .string)
    (b off cap : Nat) (s : ByteArray) (hc : ∀ j, j < s.size → w.cell? ⟨b, off + j, none⟩ = some (.int .u8 ((s.data.toList.getD j 0).toNat : Int))) :
    (convert src dst (.slice (some ⟨b, off, none⟩) s.size cap)).run Tryz.prog w = .ok (.string s) w := by
  have h := run_convert_bytes_arg (P := Tryz.prog) w src e hs he b off s.size cap (s.data.toList.map fun c => (c.toNat : Int)) (by simp) (fun i hi => by
    rw [hc i hi]
    have : i < s.data.toList.length := by simpa using hi
    simp [List.getD, List.getElem?_eq_getElem this]) dst hd
  rw [str_nums] at h
  exact h
end Go.Proofs.YtlcbcgillekphaaGreatDoor.Mem
namespace Go.Proofs.YtlcbcgillekphaaGreatDoor.utf
open Go.RowKit Mem
set_option linter.unusedVariables false

def inr (lo hi : Nat) (x : UInt8) : Bool := decide (lo ≤ x.toNat) && decide (x.toNat ≤ hi)
/-- The next n bytes go on a rune: the first of them from lo to hi. -/
def tailOk : Nat → Nat → Nat → List UInt8 → Bool
  | 0, _, _, _ => true
  | _ + 1, _, _, [] => false
  | n + 1, lo, hi, x :: t => inr lo hi x && tailOk n 128 191 t
/-- A first byte: how many follow, and from where to where the first of them is. -/
def lead (c : Nat) : Option (Nat × Nat × Nat) :=
  if c < 128 then some (0, 128, 191)
  else if 194 ≤ c ∧ c ≤ 223 then some (1, 128, 191)
  else if 224 ≤ c ∧ c ≤ 239 then some (2, if c = 224 then 160 else 128, if c = 237 then 159 else 191)
  else if 240 ≤ c ∧ c ≤ 244 then some (3, if c = 240 then 144 else 128, if c = 244 then 143 else 191)
  else none
def valid : Nat → List UInt8 → Bool
  | _, [] => true
  | 0, _ :: _ => false
  | f + 1, c :: t => match lead c.toNat with
    | none => false
    | some (n, lo, hi) => tailOk n lo hi t && valid f (t.drop n)
theorem valid_more (f : Nat) : ∀ l : List UInt8, l.length ≤ f → ∀ g, l.length ≤ g → valid f l = valid g l := by
  induction f with
  | zero =>
    intro l h g hg
    obtain rfl : l = [] := List.eq_nil_of_length_eq_zero (by omega)
    cases g <;> rfl
  | succ f ih =>
    intro l h g hg
    cases l with
    | nil => cases g <;> rfl
    | cons c t =>
      simp only [List.length_cons] at h hg
      cases g with
      | zero => omega
      | succ g =>
        simp only [valid]
        split
        · rfl
        · rename_i n lo hi e
          rw [ih (t.drop n) (by rw [List.length_drop]; omega) g (by rw [List.length_drop]; omega)]
/-- Well formed UTF-8. -/
def V (l : List UInt8) : Bool := valid l.length l
theorem V_nil : V [] = true := rfl
theorem V_cons (c : UInt8) (t : List UInt8) : V (c :: t) = match lead c.toNat with
    | none => false
    | some (n, lo, hi) => tailOk n lo hi t && V (t.drop n) := by
  unfold V
  simp only [List.length_cons, valid]
  split
  · rfl
  · rename_i n lo hi e
    rw [valid_more t.length (t.drop n) (by rw [List.length_drop]; omega) (t.drop n).length (Nat.le_refl _)]
theorem V_ascii (c : UInt8) (t : List UInt8) (h : c.toNat < 128) : V (c :: t) = V t := by
  rw [V_cons, lead, if_pos h]
  simp [tailOk]
/-- Bytes below 128 ahead count for nothing. -/
theorem V_asciis : ∀ (n : Nat) (l : List UInt8), (∀ i, i < n → (l.getD i 0).toNat < 128) → V (l.drop n) = V l
  | 0, l, _ => by simp
  | n + 1, [], _ => by simp
  | n + 1, c :: t, h => by
    rw [List.drop_succ_cons, V_ascii c t (by simpa using h 0 (by omega))]
    exact V_asciis n t fun i hi => by simpa using h (i + 1) (by omega)
theorem V_none (c : UInt8) (t : List UInt8) (h : lead c.toNat = none) : V (c :: t) = false := by rw [V_cons, h]
theorem V_some (c : UInt8) (t : List UInt8) {n lo hi : Nat} (h : lead c.toNat = some (n, lo, hi)) : V (c :: t) = (tailOk n lo hi t && V (t.drop n)) := by rw [V_cons, h]
end Go.Proofs.YtlcbcgillekphaaGreatDoor.utf
namespace Go.Proofs.YtlcbcgillekphaaGreatDoor.dm
open Go.RowKit Mem
set_option linter.unusedVariables false

def odd (c : UInt8) : Bool := decide (c.toNat < 32) || c.toNat == 127
def white (c : UInt8) : Bool := c.toNat == 32 || c.toNat == 13 || c.toNat == 10
/-- The sets of bytes. -/
def inS : Nat → UInt8 → Bool
  | 0, c => c.toNat == 32
  | 1, c => white c
  | 2, c => !(c.toNat == 44) && !(c.toNat == 61) && !(c.toNat == 32) && !odd c
  | 3, c => odd c
  | 4, c => c.toNat == 13 || c.toNat == 10
  | 5, c => !(c.toNat == 44) && !(c.toNat == 32) && !odd c
  | 6, c => !(c.toNat == 44) && !(c.toNat == 61) && !(c.toNat == 32) && !odd c
  | 7, c => !(c.toNat == 44) && !(c.toNat == 61) && !(c.toNat == 32) && !odd c
  | 8, c => !(c.toNat == 34)
  | 9, c => !(c.toNat == 44) && !white c
  | 10, c => c.toNat == 45 || (decide (48 ≤ c.toNat) && decide (c.toNat ≤ 57))
  | 11, c => !odd c
  | 12, c => !(c.toNat == 13) && !(c.toNat == 10)
  | _, c => !(c.toNat == 10)
/-- The set of a token. -/
def setOf : Nat → Nat
  | 0 => 5
  | 1 => 2
  | 2 => 6
  | 3 => 7
  | _ => 8
/-- What a backslash and a byte stand for; 0: nothing. -/
def rv : Nat → UInt8 → UInt8
  | 0, c => if c = 32 ∨ c = 44 then c else 0
  | 1, c => if c = 44 ∨ c = 61 ∨ c = 32 then c else 0
  | 2, c => if c = 44 ∨ c = 61 ∨ c = 32 then c else 0
  | 3, c => if c = 44 ∨ c = 61 ∨ c = 32 then c else 0
  | _, c => if c = 110 then 10 else if c = 114 then 13 else if c = 116 then 9 else if c = 92 ∨ c = 34 then c else 0
/-- A token with escapes: what it says, and how many bytes it has. -/
def tokL (p : UInt8 → Bool) (r : UInt8 → UInt8) : List UInt8 → List UInt8 × Nat
  | [] => ([], 0)
  | [c] => if c = 92 ∨ p c = true then ([c], 1) else ([], 0)
  | c :: d :: t =>
    if c = 92 then
      if r d = 0 then (c :: (tokL p r (d :: t)).1, (tokL p r (d :: t)).2 + 1) else (r d :: (tokL p r t).1, (tokL p r t).2 + 2)
    else if p c = true then (c :: (tokL p r (d :: t)).1, (tokL p r (d :: t)).2 + 1) else ([], 0)
def tok (k : Nat) (l : List UInt8) : List UInt8 × Nat := tokL (inS (setOf k)) (rv k) l
theorem tokL_le (p : UInt8 → Bool) (r : UInt8 → UInt8) : ∀ (n : Nat) (l : List UInt8), l.length ≤ n → (tokL p r l).2 ≤ l.length ∧ (tokL p r l).1.length ≤ (tokL p r l).2 ∧ ((tokL p r l).2 ≠ 0 → (tokL p r l).1 ≠ [])
  | 0, l, h => by
    obtain rfl : l = [] := List.eq_nil_of_length_eq_zero (by omega)
    simp [tokL]
  | n + 1, [], h => by simp [tokL]
  | n + 1, [c], h => by
    unfold tokL
    split <;> simp
  | n + 1, c :: d :: t, h => by
    simp only [List.length_cons] at h
    have h1 := tokL_le p r n (d :: t) (by simp; omega)
    have h2 := tokL_le p r n t (by omega)
    simp only [List.length_cons] at h1
    unfold tokL
    simp only [List.length_cons]
    repeat' split
    all_goals simp
    all_goals omega
theorem tok_le (k : Nat) (l : List UInt8) : (tok k l).2 ≤ l.length := (tokL_le _ _ _ l (Nat.le_refl _)).1
theorem tok_len (k : Nat) (l : List UInt8) : (tok k l).1.length ≤ (tok k l).2 := (tokL_le _ _ _ l (Nat.le_refl _)).2.1
theorem tok_some (k : Nat) (l : List UInt8) (h : (tok k l).2 ≠ 0) : (tok k l).1 ≠ [] := (tokL_le _ _ _ l (Nat.le_refl _)).2.2 h
/-- Behind p bytes of the tokens at a: what was taken is o. -/
def Tk (P : UInt8 → Bool) (r : UInt8 → UInt8) (T : List UInt8) (a p : Nat) (o : List UInt8) : Prop :=
  a ≤ p ∧ p ≤ T.length ∧ (tokL P r (T.drop a)).1 = o ++ (tokL P r (T.drop p)).1 ∧ (tokL P r (T.drop a)).2 = p - a + (tokL P r (T.drop p)).2
theorem Tk.start (P : UInt8 → Bool) (r : UInt8 → UInt8) (T : List UInt8) (a : Nat) (h : a ≤ T.length) : Tk P r T a a [] := ⟨Nat.le_refl _, h, by simp, by simp⟩
theorem drop_cons (T : List UInt8) (p : Nat) (h : p < T.length) : T.drop p = T[p] :: T.drop (p + 1) := List.drop_eq_getElem_cons h
theorem Tk.end {P : UInt8 → Bool} {r : UInt8 → UInt8} {T : List UInt8} {a p : Nat} {o : List UInt8} (h : Tk P r T a p o) (he : p = T.length) : tokL P r (T.drop a) = (o, p - a) := by
  obtain ⟨h1, h2, h3, h4⟩ := h
  have e : T.drop p = [] := List.drop_eq_nil_of_le (by omega)
  rw [e] at h3 h4
  simp [tokL] at h3 h4
  exact Prod.ext h3 h4
theorem Tk.stop {P : UInt8 → Bool} {r : UInt8 → UInt8} {T : List UInt8} {a p : Nat} {o : List UInt8} (h : Tk P r T a p o) (hp : p < T.length) (hc : T[p] ≠ 92) (hs : P T[p] = false) : tokL P r (T.drop a) = (o, p - a) := by
  obtain ⟨h1, h2, h3, h4⟩ := h
  have e : tokL P r (T.drop p) = ([], 0) := by
    rw [drop_cons T p hp]
    cases T.drop (p + 1) with
    | nil => simp [tokL, hc, hs]
    | cons d t => simp [tokL, hc, hs]
  rw [e] at h3 h4
  simp at h3 h4
  exact Prod.ext h3 h4
theorem Tk.one {P : UInt8 → Bool} {r : UInt8 → UInt8} {T : List UInt8} {a p : Nat} {o : List UInt8} (h : Tk P r T a p o) (hp : p < T.length)
    (hc : (T[p] ≠ 92 ∧ P T[p] = true) ∨ (T[p] = 92 ∧ (p + 1 = T.length ∨ ∃ h1 : p + 1 < T.length, r T[p + 1] = 0))) : Tk P r T a (p + 1) (o ++ [T[p]]) := by
  obtain ⟨h1, h2, h3, h4⟩ := h
  have e : tokL P r (T.drop p) = (T[p] :: (tokL P r (T.drop (p + 1))).1, (tokL P r (T.drop (p + 1))).2 + 1) := by
    rw [drop_cons T p hp]
    by_cases hq : p + 1 < T.length
    · have hd := drop_cons T (p + 1) hq
      rw [hd]
      rcases hc with ⟨c1, c2⟩ | ⟨c1, c2⟩
      · simp [tokL, c1, c2]
      · rcases c2 with c2 | ⟨_, c2⟩
        · omega
        · simp [tokL, c1, c2]
    · rw [List.drop_eq_nil_of_le (by omega)]
      rcases hc with ⟨c1, c2⟩ | ⟨c1, c2⟩
      · simp [tokL, c1, c2]
      · simp [tokL, c1]
  rw [e] at h3 h4
  refine ⟨by omega, by omega, by rw [h3]; simp, by rw [h4]; simp; omega⟩
theorem Tk.two {P : UInt8 → Bool} {r : UInt8 → UInt8} {T : List UInt8} {a p : Nat} {o : List UInt8} (h : Tk P r T a p o) (hp : p + 1 < T.length) (hc : T[p] = 92) (hr : r T[p + 1] ≠ 0) : Tk P r T a (p + 2) (o ++ [r T[p + 1]]) := by
  obtain ⟨h1, h2, h3, h4⟩ := h
  have e : tokL P r (T.drop p) = (r T[p + 1] :: (tokL P r (T.drop (p + 2))).1, (tokL P r (T.drop (p + 2))).2 + 2) := by
    rw [drop_cons T p (by omega), drop_cons T (p + 1) hp]
    simp [tokL, hc, hr]
  rw [e] at h3 h4
  refine ⟨by omega, by omega, by rw [h3]; simp, by rw [h4]; simp; omega⟩

/-- How many bytes of a set stand ahead. -/
def runN (p : UInt8 → Bool) (l : List UInt8) : Nat := (l.takeWhile p).length
theorem runN_le (p : UInt8 → Bool) (l : List UInt8) : runN p l ≤ l.length := by
  unfold runN
  exact (List.takeWhile_prefix p).length_le
def breaks (l : List UInt8) : Nat := l.countP (· == 10)
theorem breaks_app (a b : List UInt8) : breaks (a ++ b) = breaks a + breaks b := by simp [breaks]
theorem breaks_le (l : List UInt8) : breaks l ≤ l.length := List.countP_le_length
theorem snoc_ind {P : List UInt8 → Prop} (h0 : P []) (hs : ∀ l c, P l → P (l ++ [c])) : ∀ (n : Nat) (l : List UInt8), l.length = n → P l
  | 0, l, h => by
    obtain rfl : l = [] := List.eq_nil_of_length_eq_zero h
    exact h0
  | n + 1, l, h => by
    have hne : l ≠ [] := by intro e; subst e; simp at h
    have := hs l.dropLast (l.getLast hne) (snoc_ind h0 hs n _ (by rw [List.length_dropLast]; omega))
    rwa [List.dropLast_concat_getLast] at this
/-- How many bytes stand behind the last LF. -/
def colF (l : List UInt8) : Nat := l.foldl (fun n c => if c = 10 then 0 else n + 1) 0
theorem colF_snoc (l : List UInt8) (c : UInt8) : colF (l ++ [c]) = if c = 10 then 0 else colF l + 1 := by simp [colF]
theorem colF_le (l : List UInt8) : colF l ≤ l.length := by
  refine snoc_ind (P := fun l => colF l ≤ l.length) (by simp [colF]) (fun l c ih => ?_) _ l rfl
  rw [colF_snoc]; simp; split <;> omega
theorem colF_none (l : List UInt8) (h : ∀ c ∈ l, c ≠ 10) : colF l = l.length := by
  refine snoc_ind (P := fun l => (∀ c ∈ l, c ≠ 10) → colF l = l.length) (by simp [colF]) (fun l c ih h => ?_) _ l rfl h
  rw [colF_snoc, if_neg (h c (by simp)), ih (fun x hx => h x (by simp [hx]))]; simp
theorem colF_last (l m : List UInt8) (h : ∀ c ∈ m, c ≠ 10) : colF (l ++ 10 :: m) = m.length := by
  refine snoc_ind (P := fun m => (∀ c ∈ m, c ≠ 10) → colF (l ++ 10 :: m) = m.length) (fun _ => by rw [colF_snoc]; simp) (fun m c ih h => ?_) _ m rfl h
  rw [show l ++ 10 :: (m ++ [c]) = (l ++ 10 :: m) ++ [c] by simp, colF_snoc, if_neg (h c (by simp)), ih (fun x hx => h x (by simp [hx]))]; simp

/-- Where a decoder stands, the part that is due, where the entry begins. -/
structure M where
  at_ : Nat
  part : Nat
  from_ : Nat
/-- A fault's line and column. -/
def place (T : List UInt8) (from_ p : Nat) : Nat × Nat := (1 + breaks (T.take p), colF ((T.take p).drop from_) + 1)
def M.bad (m : M) : M := { m with part := if m.part = 5 then 5 else 4 }
inductive Res (α : Type) where
  | fault (line col : Nat)
  | none
  | some (a : α)
def flt {α : Type} (T : List UInt8) (m : M) (p : Nat) : Res α × M := (.fault (place T m.from_ p).1 (place T m.from_ p).2, m.bad)
/-- The end of a line: how many bytes it has, if it is one. -/
def eol (l : List UInt8) : Option Nat :=
  match l with
  | [] => some 0
  | c :: t => if c = 10 then some 1 else if c = 13 then (match t with
    | [] => some 1
    | d :: _ => if d = 10 then some 2 else none) else none
/-- Behind a comma. -/
def behindM (T : List UInt8) (m : M) : Option Nat × M :=
  if T[m.at_]? = some 44 then
    let m1 := { m with at_ := m.at_ + 1 }
    match T[m1.at_]? with
    | none => (some m1.at_, m1)
    | some c => if white c then (some m1.at_, m1) else (none, m1)
  else (none, m)
def nameM (T : List UInt8) (m : M) : Res (List UInt8) × M :=
  let t := tok 0 (T.drop m.at_)
  let m1 := { m with at_ := m.at_ + t.2 }
  if utf.V t.1 = false then flt T m1 m.at_
  else if t.1 = [] ∨ t.1.head? = some 35 then flt T m1 m.at_
  else match behindM T m1 with
    | (some p, m2) => flt T m2 p
    | (none, m2) => (.some t.1, { m2 with part := 1 })
def tagM (T : List UInt8) (m : M) : Res (List UInt8 × List UInt8) × M :=
  if m.part ≠ 1 then (.none, m)
  else if T[m.at_]? = some 32 then (.none, { m with at_ := m.at_ + runN (inS 0) (T.drop m.at_), part := 2 })
  else
    let k := tok 1 (T.drop m.at_)
    let m1 := { m with at_ := m.at_ + k.2 }
    if utf.V k.1 = false then flt T m1 m.at_
    else if k.1 = [] ∨ T[m1.at_]? ≠ some 61 then flt T m1 m.at_
    else
      let m2 := { m1 with at_ := m1.at_ + 1 }
      let v := tok 2 (T.drop m2.at_)
      let m3 := { m2 with at_ := m2.at_ + v.2 }
      if utf.V v.1 = false then flt T m3 m2.at_
      else if v.1 = [] then flt T m3 m2.at_
      else if T.length ≤ m3.at_ then (.some (k.1, v.1), { m3 with part := 2 })
      else match behindM T m3 with
        | (some p, m4) => flt T m4 p
        | (none, m4) => (.some (k.1, v.1), m4)
/-- Behind a field's value: where a fault is, or what is due. -/
def afterM (T : List UInt8) (m : M) : Option Nat × M :=
  match T[m.at_]? with
  | none => (none, { m with part := 5 })
  | some c =>
    if c = 44 then (none, { m with at_ := m.at_ + 1 })
    else if white c = false then (some m.at_, m)
    else
      let m1 := { m with at_ := m.at_ + runN (inS 0) (T.drop m.at_) }
      match eol (T.drop m1.at_) with
      | some n => (none, { m1 with at_ := m1.at_ + n, part := 5 })
      | none => (none, { m1 with part := 3 })
/-- A field's value: a fault's place, or its kind and bytes. -/
def valueM (T : List UInt8) (m : M) : (Nat ⊕ (Nat × List UInt8)) × M :=
  match T[m.at_]? with
  | none => (.inl m.at_, m)
  | some c =>
    if c = 34 then
      let m1 := { m with at_ := m.at_ + 1 }
      let t := tok 4 (T.drop m1.at_)
      let m2 := { m1 with at_ := m1.at_ + t.2 }
      if utf.V t.1 = false then (.inl m1.at_, m2)
      else if T.length ≤ m2.at_ then (.inl m.at_, m2)
      else (.inr (1, t.1), { m2 with at_ := m2.at_ + 1 })
    else
      let n := runN (inS 9) (T.drop m.at_)
      let raw := (T.drop m.at_).take n
      let m1 := { m with at_ := m.at_ + n }
      if c = 116 ∨ c = 84 ∨ c = 102 ∨ c = 70 then (.inr (5, raw), m1)
      else if c = 45 ∨ c = 46 ∨ (48 ≤ c.toNat ∧ c.toNat ≤ 57) then
        if raw.getLast? = some 105 then (.inr (2, raw.dropLast), m1)
        else if raw.getLast? = some 117 then (.inr (3, raw.dropLast), m1)
        else (.inr (4, raw), m1)
      else (.inl m.at_, m)
def fieldM (T : List UInt8) (m : M) : Res (List UInt8 × Nat × List UInt8) × M :=
  if m.part ≠ 2 then (.none, m)
  else
    let k := tok 3 (T.drop m.at_)
    let m1 := { m with at_ := m.at_ + k.2 }
    if utf.V k.1 = false then flt T m1 m.at_
    else if k.1 = [] then flt T m1 m.at_
    else if T[m1.at_]? ≠ some 61 then flt T m1 m1.at_
    else
      match valueM T { m1 with at_ := m1.at_ + 1 } with
      | (.inl p, m2) => flt T m2 p
      | (.inr (kind, raw), m2) =>
        match afterM T m2 with
        | (some p, m3) => flt T m3 p
        | (none, m3) => (.some (k.1, kind, raw), m3)
def timeM (T : List UInt8) (m : M) : Res (List UInt8) × M :=
  if m.part ≠ 3 then (.none, m)
  else
    let n := runN (inS 10) (T.drop m.at_)
    let s := (T.drop m.at_).take n
    let m1 := { m with at_ := m.at_ + n, part := if n = 0 then 5 else 3 }
    match T[m1.at_]? with
    | none => (.some s, { m1 with part := 5 })
    | some c =>
      if white c = false then flt T { m1 with at_ := m1.at_ + runN (inS 12) (T.drop m1.at_) } m.at_
      else
        let m2 := { m1 with at_ := m1.at_ + runN (inS 0) (T.drop m1.at_) }
        match eol (T.drop m2.at_) with
        | some q => (.some s, { m2 with at_ := m2.at_ + q, part := 5 })
        | none => flt T { m2 with at_ := m2.at_ + runN (inS 12) (T.drop m2.at_) } m2.at_
/-- How many bytes of blanks, empty lines and comments stand ahead. -/
def passed : Nat → List UInt8 → Nat
  | 0, _ => 0
  | f + 1, l =>
    let n := runN (inS 0) l
    let l1 := l.drop n
    match l1 with
    | [] => n
    | c :: _ =>
      if c = 35 then
        let q := runN (inS 11) l1
        match eol (l1.drop q) with
        | none => 0
        | some e => n + q + e + passed f (l1.drop (q + e))
      else match eol l1 with
        | none => n
        | some e => n + e + passed f (l1.drop e)
def nextM (T : List UInt8) (m : M) : M :=
  let a := if m.part = 5 then m.at_ else min (m.at_ + runN (inS 13) (T.drop m.at_) + 1) T.length
  let b := a + passed (T.length + 1) (T.drop a)
  ⟨b, 0, b⟩
structure En where
  name : List UInt8 := []
  tags : List (List UInt8 × List UInt8) := []
  fields : List (List UInt8 × Nat × List UInt8) := []
  time : List UInt8 := []
  fault : Option (Nat × Nat) := none
  at_ : Nat := 0
def tagsM (T : List UInt8) : Nat → M → List (List UInt8 × List UInt8) × Option (Nat × Nat) × M
  | 0, m => ([], none, m)
  | f + 1, m => match tagM T m with
    | (.none, m1) => ([], none, m1)
    | (.fault l c, m1) => ([], some (l, c), m1)
    | (.some p, m1) => (p :: (tagsM T f m1).1, (tagsM T f m1).2)
def fieldsM (T : List UInt8) : Nat → M → List (List UInt8 × Nat × List UInt8) × Option (Nat × Nat) × M
  | 0, m => ([], none, m)
  | f + 1, m => match fieldM T m with
    | (.none, m1) => ([], none, m1)
    | (.fault l c, m1) => ([], some (l, c), m1)
    | (.some p, m1) => (p :: (fieldsM T f m1).1, (fieldsM T f m1).2)
def entryM (T : List UInt8) (m : M) : En × M :=
  match nameM T m with
  | (.none, m1) => ({}, m1)
  | (.fault l c, m1) => ({ fault := some (l, c) }, m1)
  | (.some n, m1) =>
    let t := tagsM T (T.length + 1) m1
    match t.2.1 with
    | some f => ({ name := n, tags := t.1, fault := some f, at_ := 1 }, t.2.2)
    | none =>
      let g := fieldsM T (T.length + 1) t.2.2
      match g.2.1 with
      | some f => ({ name := n, tags := t.1, fields := g.1, fault := some f, at_ := 2 }, g.2.2)
      | none => match timeM T g.2.2 with
        | (.none, m4) => ({ name := n, tags := t.1, fields := g.1 }, m4)
        | (.fault l c, m4) => ({ name := n, tags := t.1, fields := g.1, fault := some (l, c), at_ := 3 }, m4)
        | (.some s, m4) => ({ name := n, tags := t.1, fields := g.1, time := s }, m4)
def entriesM (T : List UInt8) : Nat → M → List En
  | 0, _ => []
  | f + 1, m =>
    let m1 := nextM T m
    if m1.at_ < T.length then (entryM T m1).1 :: entriesM T f (entryM T m1).2 else []
end Go.Proofs.YtlcbcgillekphaaGreatDoor.dm
namespace Go.Proofs.YtlcbcgillekphaaGreatDoor.Mem
open Go.RowKit
set_option linter.unusedVariables false

theorem info_byte : (Tryz.prog.info? 5).map (fun i => (i.zero, i.size, i.bytes)) = some (some (.int .u8 0), 1, 1) := by kernel_rfl

/-- The bytes l lie at the head of block A; there is room up to cap. -/
structure BufAt (w : World) (A : Nat) (l : List UInt8) (cap : Nat) : Prop where
  bytes : ∀ j x, l[j]? = some x → w.cell? ⟨A, j, none⟩ = some (.int .u8 (x.toNat : Int))
  room : ∀ j, j < cap → (w.cell? ⟨A, j, none⟩).isSome = true
  free : ∀ j, j < cap → w.frozen? ⟨A, j, none⟩ = false
  le : l.length ≤ cap
  lt : A < w.heap.size
  lim : cap ≤ 9223372036854775807

theorem BufAt.but {S : List Nat} {w w' : World} {A cap : Nat} {l : List UInt8} (h : BufAt w A l cap) (hb : But S w w') (hn : A ∉ S) : BufAt w' A l cap :=
  ⟨fun j x hx => (hb.cell (p := ⟨A, j, none⟩) h.lt hn).trans (h.bytes j x hx), fun j hj => by rw [hb.cell (p := ⟨A, j, none⟩) h.lt hn]; exact h.room j hj,
   fun j hj => (hb.frozen (p := ⟨A, j, none⟩) h.lt hn).trans (h.free j hj), h.le, Nat.lt_of_lt_of_le h.lt hb.size, h.lim⟩

theorem BufAt.of_bytesWorld (w : World) (s : ByteArray) (hs : s.size ≤ 9223372036854775807) : BufAt (Lib.bytesWorld w 5 s) w.heap.size s.data.toList (grownCap w s.size 0 5) := by
  have hge := grownCap_ge w s.size 0 5
  have hsz : (Lib.bytesCells w 5 s).size = grownCap w s.size 0 5 := by
    have : s.data.size = s.size := rfl
    simp [Lib.bytesCells]
    omega
  have hh := Lib.bytesWorld_at_new w 5 s
  refine ⟨fun j x hx => ?_, fun j hj => ?_, fun j hj => ?_, by simpa using hge, by rw [Lib.bytesWorld_size]; omega, by have := grownCap_le_maxLen w s.size 0 5 (by unfold maxLen; omega); unfold maxLen at this; omega⟩
  · have hlt : j < s.data.toList.length := (List.getElem?_eq_some_iff.1 hx).1
    rw [Lib.bytesWorld_cell w 5 s j (by simpa using hlt)]
    simp only [List.getD, hx, Option.getD_some]
  · simp only [World.cell?, hh]
    simp [hsz, hj]
  · simp only [World.frozen?, hh]
    simp only [hsz]
    simp
    omega

theorem BufAt.str {w : World} {A cap : Nat} {l : List UInt8} (h : BufAt w A l cap) :
    (convert 51 9 (.slice (some ⟨A, 0, none⟩) l.length cap)).run Tryz.prog w = .ok (.string ⟨l.toArray⟩) w := by
  have hs : (⟨l.toArray⟩ : ByteArray).size = l.length := by simp [ByteArray.size]
  have := conv_str w 51 5 9 Tryz.underlying51 Tryz.underlying5 Tryz.underlying9 A 0 cap ⟨l.toArray⟩ (fun j hj => by
    have hj' : j < l.length := by rw [hs] at hj; exact hj
    rw [Nat.zero_add]
    simp only [List.getD]
    rw [List.getElem?_eq_getElem hj']
    exact h.bytes j _ (List.getElem?_eq_getElem hj'))
  rw [hs] at this
  exact this

/-- Stores of bytes behind the first ones. -/
theorem BufAt.put {w : World} {A cap : Nat} {l : List UInt8} (h : BufAt w A l cap) (x : List UInt8) (hx : l.length + x.length ≤ cap) :
    BufAt (w.setCells A l.length (Lib.byteCells x)) A (l ++ x) cap ∧ But [A] w (w.setCells A l.length (Lib.byteCells x)) := by
  have hl : (Lib.byteCells x).length = x.length := by simp [Lib.byteCells]
  refine ⟨⟨fun j y hy => ?_, fun j hj => World.isSome_setCells _ _ _ _ _ (h.room j hj), fun j hj => by rw [World.frozen?_setCells]; exact h.free j hj, by rw [List.length_append]; exact hx, by rw [size_setCells]; exact h.lt, h.lim⟩,
    (But.refl [A] w).setCells (Or.inl (by simp)) _ _⟩
  by_cases hj : j < l.length
  · rw [List.getElem?_append_left hj] at hy
    rw [World.cell?_setCells_out _ _ _ _ _ (fun _ _ => Or.inl hj)]
    exact h.bytes j y hy
  · rw [List.getElem?_append_right (by omega)] at hy
    have hlt : j - l.length < x.length := (List.getElem?_eq_some_iff.1 hy).1
    have hc := World.cell?_setCells_in A (Lib.byteCells x) l.length w (fun q hq => h.room _ (by omega)) (j - l.length) (by omega)
    rw [show l.length + (j - l.length) = j from by omega] at hc
    rw [hc]
    have : x[j - l.length] = y := by
      have := List.getElem?_eq_getElem hlt
      rw [this] at hy
      exact Option.some.inj hy
    simp [Lib.byteCells, this]

/-- append(b, s...) at a row with room, or without. -/
theorem BufAt.append_str {w : World} {A cap : Nat} {l : List UInt8} (h : BufAt w A l cap) (s : ByteArray) (hlim : l.length + s.size ≤ 70368744177664) (ty : TypeId) :
    ∃ g cap' w', (Builtin.append_ #[51, 9] ty #[.slice (some ⟨A, 0, none⟩) l.length cap, .string s]).run Tryz.prog w = .ok (.slice (some ⟨g, 0, none⟩) (l ++ s.data.toList).length cap') w' ∧
      BufAt w' g (l ++ s.data.toList) cap' ∧ But [A] w w' := by
  obtain ⟨i, hi, hz, hz1, hz2⟩ := info_parts info_byte
  have hsl : s.data.toList.length = s.size := by simp
  by_cases hr : l.length + s.size ≤ cap
  · have hf := Lib.run_firstCells_string (P := Tryz.prog) w 1 s
    have hst := run_storeCells_cells (P := Tryz.prog) A l.length (Lib.strCells s) 0 w (fun j hj => by rw [Lib.strCells_length] at hj; simpa using h.room (l.length + j) (by omega)) (fun j hj => by rw [Lib.strCells_length] at hj; simpa using h.free (l.length + j) (by omega)) (Lib.strCells_oneCell s)
    have hp := h.put s.data.toList (by omega)
    refine ⟨A, cap, w.setCells A l.length (Lib.byteCells s.data.toList), ?_, hp.1, hp.2⟩
    have e : Lib.strCells s = Lib.byteCells s.data.toList := rfl
    rw [e] at hf hst
    simp [Builtin.append_, run_underlying Tryz.underlying51, run_underlying Tryz.underlying9, sizeOf, typeInfo, hi, hz1, Builtin.lenOf, hr, hf, Addr.add_lit]
    simp only [Nat.add_zero] at hst
    rw [hst]
    rfl
  · have hg := Lib.run_append_grow_string (P := Tryz.prog) w 51 9 ty 5 i (.int .u8 0) Tryz.underlying51 Tryz.underlying9 hi hz ⟨A, 0, none⟩ l.length cap (Lib.byteCells l) (by rw [hz1]; simp [Lib.byteCells]) (fun j v hv => by
        simp only [Lib.byteCells, List.getElem?_map, Option.map_eq_some_iff] at hv
        obtain ⟨x, hx, rfl⟩ := hv
        rw [Addr.add_lit, Nat.zero_add]
        exact h.bytes j x hx) s (by omega) (by omega) (by rw [hz2]; exact growslice_fits (by omega) (by omega))
    have hge := grownCap_ge w (l.length + s.size) cap 5
    have hlen : (l ++ s.data.toList).length = l.length + s.size := by simp
    rw [hlen]
    refine ⟨w.heap.size, _, _, hg, ?_, ((But.refl [A] w).drew).alloc _⟩
    have hh := heap_alloc_new w.drew (.cells ((Lib.byteCells l).toArray ++ (Lib.strCells s).toArray ++ Builtin.zeroCells (Value.int .u8 0).cells (grownCap w (l.length + s.size) cap 5 - (l.length + s.size))) 5)
    rw [show w.drew.heap.size = w.heap.size from rfl] at hh
    have hsz : ((Lib.byteCells l).toArray ++ (Lib.strCells s).toArray ++ Builtin.zeroCells (Value.int .u8 0).cells (grownCap w (l.length + s.size) cap 5 - (l.length + s.size))).size = grownCap w (l.length + s.size) cap 5 := by
      have hz1 : (Value.int IntKind.u8 0).cells.size = 1 := rfl
      simp only [Array.size_append, List.size_toArray, size_zeroCells, hz1, Lib.strCells_length]
      have : (Lib.byteCells l).length = l.length := by simp [Lib.byteCells]
      omega
    refine ⟨fun j y hy => ?_, fun j hj => ?_, fun j hj => ?_, by rw [hlen]; exact hge, by simp, by have := grownCap_le_maxLen w (l.length + s.size) cap 5 (by unfold maxLen; omega); unfold maxLen at this; omega⟩
    · rw [cell_of_row _ _ j _ _ _ hh]
      have hjl : j < (Lib.byteCells (l ++ s.data.toList)).length := by
        have := (List.getElem?_eq_some_iff.1 hy).1
        simpa [Lib.byteCells] using this
      have e : (Lib.byteCells l).toArray ++ (Lib.strCells s).toArray = (Lib.byteCells (l ++ s.data.toList)).toArray := by simp [Lib.byteCells, Lib.strCells]
      rw [e, Array.getElem?_append_left (by simpa using hjl)]
      rw [List.getElem?_toArray]
      unfold Lib.byteCells
      rw [List.getElem?_map, hy]
      rfl
    · rw [cell_of_row _ _ j _ _ _ hh]
      rw [Array.getElem?_eq_getElem (by rw [hsz]; exact hj)]
      rfl
    · exact frozen_of_row _ _ j _ _ hh

/-- append at the operation, its run told. -/
theorem app_step {w w' : World} {ops : Array Oper} {rest : List Oper} {o : Oper} {a : Act} {Q : Exit → Act → World → Prop} (hgd : o.guard = none) (s x : Operand) (t u : TypeId)
    (ho : o.op = .call { callee := .builtin .append, args := #[s, x], argTypes := #[t, u] }) (v y r : Value) (hs : a.eval s = v) (hx : a.eval x = y)
    (hr : (Builtin.append_ #[t, u] o.type #[v, y]).run Tryz.prog w = .ok r w') (h : wpList Tryz.prog ops Q rest (a.put o.dst r) w') : wpList Tryz.prog ops Q (o :: rest) a w :=
  wpList_plain hgd fun _ hK => by
    unfold Oper.wp execOp
    simp only [ho, resolve, invoke, builtin, Sem.run_bind, Sem.run_pure, Result.andThen_ok, List.map_toArray, List.map_cons, List.map_nil, hs, hx, hr]
    exact hK _ _ h

/-- make([]byte, n, c): a new row of zeros. -/
theorem make_row (w : World) (n c : Nat) (hn : n ≤ c) (hc : c ≤ 70368744177664) :
    (Instr.makeSlice 51 (.int .i64 (n : Int)) (.int .i64 (c : Int))).run Tryz.prog w = .ok (.slice (some ⟨w.heap.size, 0, none⟩) n c) (w.alloc (.cells (madeCells #[.int .u8 0] c) 5)) := by
  obtain ⟨i, hi, hz, hz1, hz2⟩ := info_parts info_byte
  have h := run_make (P := Tryz.prog) w 51 5 i (.int .u8 0) Tryz.underlying51 hi hz .i64 .i64 (n : Int) (c : Int) (by omega) (by omega) (by rw [hz2]; omega) (by omega)
  rw [hz1] at h
  simp only [Int.toNat_natCast, Nat.mul_one] at h
  exact h
theorem made_cells (w : World) (c : Nat) : (∀ j, j < c → (w.alloc (.cells (madeCells #[.int .u8 0] c) 5)).cell? ⟨w.heap.size, j, none⟩ = some (.int .u8 0)) ∧ ∀ j, (w.alloc (.cells (madeCells #[.int .u8 0] c) 5)).frozen? ⟨w.heap.size, j, none⟩ = false := by
  have hh := heap_alloc_new w (.cells (madeCells #[.int .u8 0] c) 5)
  refine ⟨fun j hj => ?_, fun j => frozen_of_row _ _ j _ _ hh⟩
  rw [cell_of_row _ _ j _ _ _ hh]
  simp [madeCells, hj, Nat.mod_one]
/-- copy of a row's bytes into a new row of zeros. -/
theorem made_copied {w : World} {A cap : Nat} {l : List UInt8} (h : BufAt w A l cap) (c : Nat) (hc : l.length ≤ c) (hc2 : c ≤ 70368744177664) (ty : TypeId) :
    (Builtin.copy_ #[51, 51] ty #[.slice (some ⟨w.heap.size, 0, none⟩) l.length c, .slice (some ⟨A, 0, none⟩) l.length cap]).run Tryz.prog (w.alloc (.cells (madeCells #[.int .u8 0] c) 5)) =
      .ok (goInt l.length) ((w.alloc (.cells (madeCells #[.int .u8 0] c) 5)).setCells w.heap.size 0 (Lib.byteCells l)) ∧
    BufAt ((w.alloc (.cells (madeCells #[.int .u8 0] c) 5)).setCells w.heap.size 0 (Lib.byteCells l)) w.heap.size l c ∧
    But [] w ((w.alloc (.cells (madeCells #[.int .u8 0] c) 5)).setCells w.heap.size 0 (Lib.byteCells l)) := by
  have hbl : (Lib.byteCells l).length = l.length := by simp [Lib.byteCells]
  obtain ⟨m1, m2⟩ := made_cells w c
  have ha : But [] w (w.alloc (.cells (madeCells #[.int .u8 0] c) 5)) := (But.refl _ _).alloc _
  have hs : (Tryz.prog.info? 5).map (·.size) = some 1 := by kernel_rfl
  have hr := run_copy_cells (P := Tryz.prog) (w.alloc (.cells (madeCells #[.int .u8 0] c) 5)) 51 51 ty 5 w.heap.size 0 l.length c ⟨A, 0, none⟩ l.length cap (Lib.byteCells l) Tryz.underlying51 hs (by rw [hbl]; simp)
    (fun j v hv => by
      simp only [Lib.byteCells, List.getElem?_map, Option.map_eq_some_iff] at hv
      obtain ⟨x, hx, rfl⟩ := hv
      rw [Addr.add_lit, Nat.zero_add]
      exact ha.cellAt (h.bytes j x hx) (by simp))
    (fun j hj => by rw [Nat.zero_add, m1 j (by omega)]; rfl) (fun j hj => m2 _) (Lib.byteCells_one l)
  rw [hbl] at hr
  have h0 : BufAt (w.alloc (.cells (madeCells #[.int .u8 0] c) 5)) w.heap.size [] c := ⟨fun j x hx => by simp at hx, fun j hj => by rw [m1 j hj]; rfl, fun j _ => m2 j, Nat.zero_le _, by simp, by omega⟩
  have hp := h0.put l (by simpa using hc)
  refine ⟨hr, hp.1, ?_⟩
  exact ha.setCells (Or.inr (Nat.le_refl _)) _ _
end Go.Proofs.YtlcbcgillekphaaGreatDoor.Mem
namespace Go.Proofs.YtlcbcgillekphaaGreatDoor.rw
open Go.RowKit Mem
set_option linter.unusedVariables false

/-- Block X holds just the cells l. -/
def Rw (w : World) (X : Nat) (l : List Value) (T : TypeId) : Prop := w.heap[X]? = some (.cells l.toArray T (0, 0))
theorem Rw.cell {w : World} {X : Nat} {l : List Value} {T : TypeId} (h : Rw w X l T) (j : Nat) : w.cell? ⟨X, j, none⟩ = l[j]? := by
  rw [cell_of_row _ _ j _ _ _ h]; simp
theorem Rw.fz {w : World} {X : Nat} {l : List Value} {T : TypeId} (h : Rw w X l T) (j : Nat) : w.frozen? ⟨X, j, none⟩ = false := frozen_of_row _ _ j _ _ h
theorem Rw.set {w : World} {X : Nat} {l : List Value} {T : TypeId} (h : Rw w X l T) (j : Nat) (v : Value) : Rw (w.setCell ⟨X, j, none⟩ v) X (l.set j v) T := by
  unfold Rw at *
  simp [World.setCell, Array.getElem?_modify, h]
theorem Rw.lt {w : World} {X : Nat} {l : List Value} {T : TypeId} (h : Rw w X l T) : X < w.heap.size := (Array.getElem?_eq_some_iff.1 h).1
theorem Rw.but {S : List Nat} {w w' : World} {X : Nat} {l : List Value} {T : TypeId} (h : Rw w X l T) (hb : But S w w') (hn : X ∉ S) : Rw w' X l T := hb.heapAt h hn
theorem Rw.new (w : World) (l : List Value) (T : TypeId) : Rw (w.alloc (.cells l.toArray T)) w.heap.size l T := heap_alloc_new w _
theorem Rw.drew {w : World} {X : Nat} {l : List Value} {T : TypeId} (h : Rw w X l T) : Rw w.drew X l T := h
theorem alloc_size (w : World) (o : Obj) : (w.alloc o).heap.size = w.heap.size + 1 := by simp
theorem set_size (w : World) (p : Addr) (v : Value) : (w.setCell p v).heap.size = w.heap.size := by simp [World.setCell]
theorem Below.at {B : Nat} {w w' : World} {k : Nat} {o : Obj} (h : Below B w w') (hk : k < B) (hc : w.heap[k]? = some o) : w'.heap[k]? = some o := (h.block k hk).trans hc
theorem Rw.below {B : Nat} {w w' : World} {X : Nat} {l : List Value} {T : TypeId} (h : Rw w X l T) (hb : Below B w w') (hn : X < B) : Rw w' X l T := Below.at hb hn h

/-- The bytes of l lie behind the address a, as a slice's elements. -/
def Bs (w : World) (a : Option Addr) (l : List UInt8) : Prop :=
  (a = none ∧ l = []) ∨ ∃ A off, a = some ⟨A, off, none⟩ ∧ ∀ j x, l[j]? = some x → w.cell? ⟨A, off + j, none⟩ = some (.int .u8 (x.toNat : Int))
theorem Bs.nil (w : World) : Bs w none [] := .inl ⟨rfl, rfl⟩
theorem Bs.but {S : List Nat} {w w' : World} {a : Option Addr} {l : List UInt8} (h : Bs w a l) (hb : But S w w') (hn : ∀ A off, a = some ⟨A, off, none⟩ → A ∉ S) : Bs w' a l := by
  rcases h with h | ⟨A, off, rfl, hc⟩
  · exact .inl h
  · exact .inr ⟨A, off, rfl, fun j x hx => hb.cellAt (hc j x hx) (hn A off rfl)⟩
theorem Bs.below {B : Nat} {w w' : World} {a : Option Addr} {l : List UInt8} (h : Bs w a l) (hb : Below B w w') (hn : ∀ A off, a = some ⟨A, off, none⟩ → A < B) : Bs w' a l := by
  rcases h with h | ⟨A, off, rfl, hc⟩
  · exact .inl h
  · exact .inr ⟨A, off, rfl, fun j x hx => (hb.cell (p := ⟨A, off + j, none⟩) (hn A off rfl)).trans (hc j x hx)⟩
theorem Bs.get {w : World} {a : Option Addr} {l : List UInt8} (h : Bs w a l) {j : Nat} (hj : j < l.length) : ∃ A off, a = some ⟨A, off, none⟩ ∧ w.cell? ⟨A, off + j, none⟩ = some (.int .u8 ((l[j]'hj).toNat : Int)) := by
  rcases h with ⟨_, rfl⟩ | ⟨A, off, rfl, hc⟩
  · simp at hj
  · exact ⟨A, off, rfl, hc j _ (List.getElem?_eq_getElem hj)⟩
/-- string(b) of such a slice. -/
theorem Bs.str {w : World} {a : Option Addr} {l : List UInt8} (h : Bs w a l) (c : Nat) : (convert 51 9 (.slice a l.length c)).run Tryz.prog w = .ok (.string ⟨l.toArray⟩) w := by
  rcases h with ⟨rfl, rfl⟩ | ⟨A, off, rfl, hc⟩
  · exact run_convert_bytes_nil w 51 5 Tryz.underlying51 Tryz.underlying5 0 c 9 Tryz.underlying9
  · have hs : (⟨l.toArray⟩ : ByteArray).size = l.length := by simp [ByteArray.size]
    have := conv_str w 51 5 9 Tryz.underlying51 Tryz.underlying5 Tryz.underlying9 A off c ⟨l.toArray⟩ (fun j hj => by
      have hj' : j < l.length := by rw [hs] at hj; exact hj
      simp only [List.getD]
      rw [List.getElem?_eq_getElem hj']
      exact hc j _ (List.getElem?_eq_getElem hj'))
    rw [hs] at this
    exact this
end Go.Proofs.YtlcbcgillekphaaGreatDoor.rw
namespace Go.Proofs.YtlcbcgillekphaaGreatDoor.Mem
open Go.RowKit
set_option linter.unusedVariables false

theorem BufAt.append_row2 {w : World} {A cap : Nat} {l : List UInt8} (h : BufAt w A l cap) (B o m c : Nat) (y : List UInt8) (hy : ∀ j x, y[j]? = some x → w.cell? ⟨B, o + j, none⟩ = some (.int .u8 (x.toNat : Int)))
    (hm : y.length = m) (hlim : l.length + m ≤ 70368744177664) (ty : TypeId) :
    ∃ g cap' w', (Builtin.append_ #[51, 51] ty #[.slice (some ⟨A, 0, none⟩) l.length cap, .slice (some ⟨B, o, none⟩) m c]).run Tryz.prog w = .ok (.slice (some ⟨g, 0, none⟩) (l.length + m) cap') w' ∧
      BufAt w' g (l ++ y) cap' ∧ But [A] w w' ∧ (g = A ∨ g = w.heap.size) ∧ ∀ j, j < l.length → w'.cell? ⟨A, j, none⟩ = w.cell? ⟨A, j, none⟩ := by
  obtain ⟨i, hi, hz, hz1, hz2⟩ := info_parts info_byte
  have hbl : (Lib.byteCells y).length = m := by rw [Lib.byteCells_length, hm]
  have hone : ∀ u ∈ Lib.byteCells y, u.oneCell' = true := fun u hu => by
    obtain ⟨_, _, rfl⟩ := List.mem_map.1 hu
    rfl
  have hs : Src Tryz.prog i.size 51 (.slice (some ⟨B, o, none⟩) m c) m (Lib.byteCells y) w := Src.ofSlice w Tryz.underlying51 _ m c _ (by rw [hbl, hz1, Nat.mul_one]) (fun j u hu => by
    simp only [Lib.byteCells, List.getElem?_map, Option.map_eq_some_iff] at hu
    obtain ⟨x, hx, rfl⟩ := hu
    rw [Addr.add_lit]
    exact hy j x hx) hone
  by_cases hr : l.length + m ≤ cap
  · have hrun := run_append_room_src (P := Tryz.prog) w 51 51 ty 5 i Tryz.underlying51 hi A 0 l.length cap _ m _ hs hr (fun j hj => by rw [hz1]; rw [hbl] at hj; simpa using h.room (l.length + j) (by omega)) (fun j hj => by rw [hz1]; rw [hbl] at hj; simpa using h.free (l.length + j) (by omega))
    rw [hz1, Nat.mul_one, Nat.zero_add] at hrun
    have hp := h.put y (by omega)
    refine ⟨A, cap, _, hrun, hp.1, hp.2, Or.inl rfl, fun j hj => ?_⟩
    rw [hp.1.bytes j l[j] (by rw [List.getElem?_append_left hj]; exact List.getElem?_eq_getElem hj), h.bytes j l[j] (List.getElem?_eq_getElem hj)]
  · have hold : (Builtin.firstCells i.size l.length (.slice (some ⟨A, 0, none⟩) l.length cap)).run Tryz.prog w.drew = .ok (Lib.byteCells l).toArray w.drew :=
      run_firstCells_some w.drew i.size l.length ⟨A, 0, none⟩ l.length cap (Lib.byteCells l) (by rw [hz1, Lib.byteCells_length, Nat.mul_one]) (fun j v hv => by
        simp only [Lib.byteCells, List.getElem?_map, Option.map_eq_some_iff] at hv
        obtain ⟨x, hx, rfl⟩ := hv
        rw [Addr.add_lit, Nat.zero_add]
        exact h.bytes j x hx)
    have hg := run_append_grow_src (P := Tryz.prog) w 51 51 ty 5 i (.int .u8 0) Tryz.underlying51 hi hz (some ⟨A, 0, none⟩) l.length cap (Lib.byteCells l) hold _ m _ hs (by omega) (by omega) (by rw [hz2]; exact growslice_fits (by omega) (by omega))
    have hge := grownCap_ge w (l.length + m) cap 5
    have hlen : (l ++ y).length = l.length + m := by rw [List.length_append, hm]
    refine ⟨w.heap.size, _, _, hg, ?_, ((But.refl [A] w).drew).alloc _, Or.inr rfl, fun j _ => (((But.refl [] w).drew).alloc _).cell (p := ⟨A, j, none⟩) h.lt (by simp)⟩
    have hh := heap_alloc_new w.drew (.cells ((Lib.byteCells l ++ Lib.byteCells y).toArray ++ Builtin.zeroCells (Value.int .u8 0).cells (grownCap w (l.length + m) cap 5 - (l.length + m))) 5)
    rw [show w.drew.heap.size = w.heap.size from rfl] at hh
    have e : Lib.byteCells l ++ Lib.byteCells y = Lib.byteCells (l ++ y) := (Lib.byteCells_append l y).symm
    have hsz : ((Lib.byteCells l ++ Lib.byteCells y).toArray ++ Builtin.zeroCells (Value.int .u8 0).cells (grownCap w (l.length + m) cap 5 - (l.length + m))).size = grownCap w (l.length + m) cap 5 := by
      have hz1 : (Value.int IntKind.u8 0).cells.size = 1 := rfl
      simp only [Array.size_append, List.size_toArray, size_zeroCells, hz1, List.length_append, Lib.byteCells_length]
      omega
    refine ⟨fun j x hx => ?_, fun j hj => ?_, fun j hj => ?_, by rw [hlen]; exact hge, by simp, by have := grownCap_le_maxLen w (l.length + m) cap 5 (by unfold maxLen; omega); unfold maxLen at this; omega⟩
    · rw [cell_of_row _ _ j _ _ _ hh]
      have hjl : j < (Lib.byteCells (l ++ y)).length := by
        have := (List.getElem?_eq_some_iff.1 hx).1
        simpa [Lib.byteCells] using this
      rw [e, Array.getElem?_append_left (by simpa using hjl)]
      rw [List.getElem?_toArray]
      unfold Lib.byteCells
      rw [List.getElem?_map, hx]
      rfl
    · rw [cell_of_row _ _ j _ _ _ hh]
      rw [Array.getElem?_eq_getElem (by rw [hsz]; exact hj)]
      rfl
    · exact frozen_of_row _ _ j _ _ hh

theorem BufAt.append_row {w : World} {A cap : Nat} {l : List UInt8} (h : BufAt w A l cap) (B o m c : Nat) (y : List UInt8) (hy : ∀ j x, y[j]? = some x → w.cell? ⟨B, o + j, none⟩ = some (.int .u8 (x.toNat : Int)))
    (hm : y.length = m) (hlim : l.length + m ≤ 70368744177664) (ty : TypeId) :
    ∃ g cap' w', (Builtin.append_ #[51, 51] ty #[.slice (some ⟨A, 0, none⟩) l.length cap, .slice (some ⟨B, o, none⟩) m c]).run Tryz.prog w = .ok (.slice (some ⟨g, 0, none⟩) (l.length + m) cap') w' ∧
      BufAt w' g (l ++ y) cap' ∧ But [A] w w' ∧ (g = A ∨ g = w.heap.size) := by
  obtain ⟨g, c', w', h1, h2, h3, h4, _⟩ := h.append_row2 B o m c y hy hm hlim ty
  exact ⟨g, c', w', h1, h2, h3, h4⟩

theorem app_buf {w : World} {ops : Array Oper} {rest : List Oper} {o : Oper} {a : Act} {Q : Exit → Act → World → Prop} (hgd : o.guard = none) (s x : Operand)
    (ho : o.op = .call { callee := .builtin .append, args := #[s, x], argTypes := #[51, 51] }) (A n cap : Nat) (l : List UInt8) (hs : a.eval s = .slice (some ⟨A, 0, none⟩) n cap) (hn : l.length = n) (hbuf : BufAt w A l cap)
    (B p m c : Nat) (y : List UInt8) (hx : a.eval x = .slice (some ⟨B, p, none⟩) m c) (hy : ∀ j x, y[j]? = some x → w.cell? ⟨B, p + j, none⟩ = some (.int .u8 (x.toNat : Int))) (hm : y.length = m) (hlim : n + m ≤ 70368744177664)
    (h : ∀ g cap' w', Hid (BufAt w' g (l ++ y) cap') → Hid (But [A] w w') → (g = A ∨ g = w.heap.size) → wpList Tryz.prog ops Q rest (a.put o.dst (.slice (some ⟨g, 0, none⟩) (n + m) cap')) w') : wpList Tryz.prog ops Q (o :: rest) a w := by
  subst hn
  obtain ⟨g, cap', w', hr, hb, hbut, hg⟩ := hbuf.append_row B p m c y hy hm hlim o.type
  exact app_step hgd s x _ _ ho _ _ _ hs hx hr (h g cap' w' (Lib.hid hb) (Lib.hid hbut) hg)
theorem lit1 (w : World) (b : UInt8) (v : Int) (hv : v = (b.toNat : Int)) : ∀ j x, [b][j]? = some x → (w.alloc (.cells #[.int .u8 v] 5)).cell? ⟨w.heap.size, 0 + j, none⟩ = some (.int .u8 (x.toNat : Int)) := by
  intro j x hx
  have hj : j = 0 := by
    have := (List.getElem?_eq_some_iff.1 hx).1
    simp at this; omega
  subst hj
  obtain rfl : b = x := by simpa using hx
  rw [cell_of_row _ _ _ _ _ _ (heap_alloc_new w _), hv]
  rfl
end Go.Proofs.YtlcbcgillekphaaGreatDoor.Mem
