/-
  Proved: plain laws of a digest's memory: its words, its buffer, its counts; and the contract of sha1.block.
  Conditions: each law's own.
-/
import Derived.Test.YtdlimgghcpbkcaaShaG
import Derived.Laws.CopyOwn
import Derived.Lib.UnsafeStr
namespace Go.Proofs.Ytdlimgghcpbkcaa.sha
open Go.RowKit Mem Go.Great
set_option linter.unusedVariables false

theorem but_setRow {S : List Nat} {a w : World} (h : But S a w) {g : Nat} (hg : g ∈ S ∨ a.heap.size ≤ g) (cs : Array Value) : But S a (w.setRow g cs) :=
  ⟨h.os, h.tape, h.output, by rw [setRow_size]; exact h.size, fun k hk hn => (setRow_other w g k cs (fun e => by rcases hg with hg | hg; exact hn (e ▸ hg); omega)).trans (h.block k hk hn)⟩

theorem wpList_copy_but {P : Program} {w : World} {ops : Array Oper} {rest : List Oper} {o : Oper} {a : Act} {Q : Exit → Act → World → Prop} (hgd : o.guard = none) (d s : Operand) (dT sT : TypeId)
    (ho : o.op = .call { callee := .builtin .copy, args := #[d, s], argTypes := #[dT, sT] }) (elem : TypeId) (hu : P.underlying dT = some (.slice elem)) (hsz : (P.info? elem).map (·.size) = some 1)
    (dp sp : Option Addr) (dLen dCap sLen sCap : Nat) (hd : a.eval d = .slice dp dLen dCap) (hs : a.eval s = .slice sp sLen sCap)
    (g off : Nat) (cur : List Value) (t : TypeId) (hg : w.heap[g]? = some (.cells cur.toArray t (0, 0))) (cs : List Value) (hn : cs.length = Nat.min sLen dLen)
    (hpos : 0 < cs.length → dp = some ⟨g, off, none⟩ ∧ ∃ ad, sp = some ad ∧ ∀ j v, cs[j]? = some v → w.cell? (ad.add j) = some v)
    (hfit : off + cs.length ≤ cur.length) (h1 : ∀ v ∈ cs, v.oneCell' = true)
    (h : ∀ w', Hid (w'.heap[g]? = some (.cells (splice cur off cs).toArray t (0, 0))) → Hid (But [g] w w') → wpList P ops Q rest (a.put o.dst (goInt cs.length)) w') :
    wpList P ops Q (o :: rest) a w := by
  by_cases h0 : cs.length = 0
  · obtain rfl : cs = [] := List.eq_nil_of_length_eq_zero h0
    refine wpList_copy_nothing hgd d s dT sT ho elem hu hsz dp sp dLen dCap sLen sCap hd hs (by simpa using hn.symm) ?_
    exact h w (show _ = _ by simpa [splice] using hg) (Lib.hid (But.refl _ _))
  · obtain ⟨rfl, ad, rfl, hsrc⟩ := hpos (by omega)
    refine wpList_copy_own hgd d s dT sT ho elem hu hsz g off dLen dCap ad sLen sCap hd hs cur.toArray t hg cs hn hsrc (by simpa using hfit) h1 ?_
    exact h _ (show _ = _ by simpa [splice] using setRow_heap w g _ _ t _ hg) (Lib.hid (but_setRow (But.refl _ _) (Or.inl (by simp)) _))

/-- A digest's cells. -/
def ws (s : S5) : List Value := [.int .u32 (iv s.a), .int .u32 (iv s.b), .int .u32 (iv s.c), .int .u32 (iv s.d), .int .u32 (iv s.e)]
def dl (s : S5) (x : List UInt8) (nx len : Nat) : List Value := ws s ++ (Lib.byteCells x ++ [.int .i64 (nx : Int), .int .u64 (len : Int)])
theorem dl_length (s : S5) (x : List UInt8) (nx len : Nat) : (dl s x nx len).length = 7 + x.length := by simp [dl, ws, Lib.byteCells]; omega
/-- A digest in memory. -/
structure Dig (w : World) (X : Nat) (s : S5) (x : List UInt8) (nx len : Nat) : Prop where
  row : w.heap[X]? = some (.cells (dl s x nx len).toArray 132 (0, 0))
  hx : x.length = 64
theorem Dig.lt {w : World} {X : Nat} {s : S5} {x : List UInt8} {nx len : Nat} (h : Dig w X s x nx len) : X < w.heap.size := (Array.getElem?_eq_some_iff.1 h.row).1
theorem Dig.word {w : World} {X : Nat} {s : S5} {x : List UInt8} {nx len : Nat} (h : Dig w X s x nx len) : ∀ j, j < 5 → w.cell? ⟨X, j, none⟩ = some (.int .u32 (iv (s.f j))) := by
  intro j hj
  rw [cell_of_row _ _ j _ _ _ h.row]
  obtain rfl | rfl | rfl | rfl | rfl : j = 0 ∨ j = 1 ∨ j = 2 ∨ j = 3 ∨ j = 4 := by omega
  all_goals rfl
theorem Dig.byte {w : World} {X : Nat} {s : S5} {x : List UInt8} {nx len : Nat} (h : Dig w X s x nx len) (j : Nat) (hj : j < 64) : w.cell? ⟨X, 5 + j, none⟩ = some (.int .u8 ((x.getD j 0).toNat : Int)) := by
  have hx := h.hx
  have hj' : j < x.length := by omega
  rw [cell_of_row _ _ _ _ _ _ h.row]
  simp [dl, ws, Lib.byteCells, List.getElem?_append, hj', Nat.add_comm 5 j]
theorem Dig.cnx {w : World} {X : Nat} {s : S5} {x : List UInt8} {nx len : Nat} (h : Dig w X s x nx len) : w.cell? ⟨X, 69, none⟩ = some (.int .i64 (nx : Int)) := by
  rw [cell_of_row _ _ _ _ _ _ h.row]
  simp [dl, ws, Lib.byteCells, h.hx]
theorem Dig.clen {w : World} {X : Nat} {s : S5} {x : List UInt8} {nx len : Nat} (h : Dig w X s x nx len) : w.cell? ⟨X, 70, none⟩ = some (.int .u64 (len : Int)) := by
  rw [cell_of_row _ _ _ _ _ _ h.row]
  simp [dl, ws, Lib.byteCells, h.hx]
theorem Dig.fz {w : World} {X : Nat} {s : S5} {x : List UInt8} {nx len : Nat} (h : Dig w X s x nx len) (j : Nat) : w.frozen? ⟨X, j, none⟩ = false := frozen_of_row _ _ j _ _ h.row
theorem row_setCell {w : World} {X : Nat} {l : List Value} {T : TypeId} (h : w.heap[X]? = some (.cells l.toArray T (0, 0))) (j : Nat) (v : Value) : (w.setCell ⟨X, j, none⟩ v).heap[X]? = some (.cells (l.set j v).toArray T (0, 0)) := by
  simp [World.setCell, Array.getElem?_modify, h]
theorem Dig.setNx {w : World} {X : Nat} {s : S5} {x : List UInt8} {nx len : Nat} (h : Dig w X s x nx len) (n : Nat) : Dig (w.setCell ⟨X, 69, none⟩ (.int .i64 (n : Int))) X s x n len := by
  refine ⟨?_, h.hx⟩
  rw [row_setCell h.row]
  congr 3
  have := h.hx
  simp [dl, ws, Lib.byteCells, this]
theorem Dig.setLen {w : World} {X : Nat} {s : S5} {x : List UInt8} {nx len : Nat} (h : Dig w X s x nx len) (n : Nat) : Dig (w.setCell ⟨X, 70, none⟩ (.int .u64 (n : Int))) X s x nx n := by
  refine ⟨?_, h.hx⟩
  rw [row_setCell h.row]
  congr 3
  have := h.hx
  simp [dl, ws, Lib.byteCells, this]
theorem Dig.set5 {w : World} {X : Nat} {s : S5} {x : List UInt8} {nx len : Nat} (h : Dig w X s x nx len) (t : S5) :
    Dig (((((w.setCell ⟨X, 0, none⟩ (.int .u32 (iv t.a))).setCell ⟨X, 1, none⟩ (.int .u32 (iv t.b))).setCell ⟨X, 2, none⟩ (.int .u32 (iv t.c))).setCell ⟨X, 3, none⟩ (.int .u32 (iv t.d))).setCell ⟨X, 4, none⟩ (.int .u32 (iv t.e))) X t x nx len :=
  ⟨row_setCell (row_setCell (row_setCell (row_setCell (row_setCell h.row 0 _) 1 _) 2 _) 3 _) 4 _, h.hx⟩
theorem Dig.old {w w' : World} {X : Nat} {s : S5} {x : List UInt8} {nx len : Nat} (h : Dig w X s x nx len) {S : List Nat} (b : But S w w') (hk : X ∉ S) : Dig w' X s x nx len := ⟨b.heapAt h.row hk, h.hx⟩
theorem Dig.drew {w : World} {X : Nat} {s : S5} {x : List UInt8} {nx len : Nat} (h : Dig w X s x nx len) : Dig w.drew X s x nx len := ⟨h.row, h.hx⟩
theorem splice_dl (s : S5) (x : List UInt8) (nx len k : Nat) (q : List UInt8) (hx : x.length = 64) (hk : k + q.length ≤ 64) : splice (dl s x nx len) (5 + k) (Lib.byteCells q) = dl s (splice x k q) nx len := by
  have h1 : k - 64 = 0 := by omega
  have h2 : k + q.length - 64 = 0 := by omega
  have e1 : List.take (5 + k) (dl s x nx len) = ws s ++ Lib.byteCells (x.take k) := by
    rw [Nat.add_comm 5 k]
    simp [dl, ws, Lib.byteCells, List.take_append, hx, h1]
  have e2 : List.drop (5 + k + q.length) (dl s x nx len) = Lib.byteCells (x.drop (k + q.length)) ++ [.int .i64 (nx : Int), .int .u64 (len : Int)] := by
    rw [show 5 + k + q.length = (k + q.length) + 5 by omega]
    simp [dl, ws, Lib.byteCells, List.drop_append, hx, h2]
  unfold splice
  rw [Lib.byteCells_length, e1, e2]
  simp [dl, Lib.byteCells]
theorem Dig.splice {w : World} {X : Nat} {s : S5} {x : List UInt8} {nx len k : Nat} {q : List UInt8} (hx : x.length = 64) (hk : k + q.length ≤ 64)
    (h : w.heap[X]? = some (.cells (splice (dl s x nx len) (5 + k) (Lib.byteCells q)).toArray 132 (0, 0))) : Dig w X s (Go.splice x k q) nx len := by
  rw [splice_dl s x nx len k q hx hk] at h
  exact ⟨h, by rw [length_splice _ _ _ (by omega)]; exact hx⟩
theorem splice_lo {x q : List UInt8} {k j : Nat} (hk : k ≤ x.length) (h : j < k) : (splice x k q).getD j 0 = x.getD j 0 := by
  have : j < (x.take k).length := by rw [List.length_take]; omega
  unfold splice
  rw [List.getD, List.getD, List.getElem?_append_left this, List.getElem?_take, if_pos h]
theorem splice_mid {x q : List UInt8} {k j : Nat} (hk : k ≤ x.length) (h : j < q.length) : (splice x k q).getD (k + j) 0 = q.getD j 0 := by
  have hl : (x.take k).length = k := by rw [List.length_take]; omega
  unfold splice
  rw [List.getD, List.getD, List.getElem?_append_right (by rw [hl]; omega), hl, Nat.add_sub_cancel_left, List.getElem?_append_left h]

/-- What block's contract leaves. -/
theorem block58 (s : S5) (n L X g o cap : Nat) (b : Nat → BitVec 32) (w : World) (h8 : ∀ i, iv (b i) ≤ 255) (hL0 : 64 * n ≤ L) (hL1 : L < 64 * n + 64) (hcap : L ≤ cap) (hmax : L ≤ 140737488351232)
    (hd : ∀ j, j < 5 → w.cell? ⟨X, j, none⟩ = some (.int .u32 (iv (s.f j)))) (hf : ∀ j, j < 5 → w.frozen? ⟨X, j, none⟩ = false)
    (hb : ∀ i, i < L → w.cell? ⟨g, o + i, none⟩ = some (.int .u8 (iv (b i)))) (hg : g < w.heap.size) :
    Calls Try.prog 58 #[.pointer (some ⟨X, 0, none⟩), .slice (some ⟨g, o, none⟩) L cap] w fun e w' => e = .returned (.tuple #[]) ∧
      Hid (∃ wr, Below w.heap.size w wr ∧ (((((wr.setCell ⟨X, 0, none⟩ (.int .u32 (iv (blocks s b n).a))).setCell ⟨X, 1, none⟩ (.int .u32 (iv (blocks s b n).b))).setCell ⟨X, 2, none⟩ (.int .u32 (iv (blocks s b n).c))).setCell ⟨X, 3, none⟩ (.int .u32 (iv (blocks s b n).d))).setCell ⟨X, 4, none⟩ (.int .u32 (iv (blocks s b n).e))).drew = w') := by
  have HC := Lib.hid (block64 s n L X g o cap b w h8 hL0 hL1 hcap hmax hd hf hb hg)
  clear hd hf hb
  go_enter Try.func58, Try.ntmps58
  go_wp2_with (go_at_call 64; refine HC.out.mono ?_; rintro e w' ⟨rfl, h⟩; replace h := Lib.hid h)
  exact ⟨rfl, .tuple #[], by simp [results, Try.results58], rfl, h⟩
/-- The same, as the digest lies behind it. -/
theorem block_dig {w w' : World} {X : Nat} {s t : S5} {x : List UInt8} {nx len : Nat} (h : Dig w X s x nx len)
    (hw : ∃ wr, Below w.heap.size w wr ∧ (((((wr.setCell ⟨X, 0, none⟩ (.int .u32 (iv t.a))).setCell ⟨X, 1, none⟩ (.int .u32 (iv t.b))).setCell ⟨X, 2, none⟩ (.int .u32 (iv t.c))).setCell ⟨X, 3, none⟩ (.int .u32 (iv t.d))).setCell ⟨X, 4, none⟩ (.int .u32 (iv t.e))).drew = w') :
    Dig w' X t x nx len ∧ But [X] w w' := by
  obtain ⟨wr, hb, rfl⟩ := hw
  have b1 : But [X] w wr := (But.ofBelow hb)
  have b0 : But [] w wr := But.ofBelow hb
  exact ⟨((h.old b0 (by simp)).set5 t).drew, (b1.trans (but5 wr X _ _ _ _ _)).drew⟩
end Go.Proofs.Ytdlimgghcpbkcaa.sha
