/-
  Proved: the contracts of the readers that impl.LenRead makes and asks, and what its loop keeps.
  Conditions: each contract's own (the readers' cells, sizes of at most 5000).
-/
import Derived.Test.YtciicifdehicgaaMem
import Derived.Outline
import Derived.WalkLawsBesides
import Derived.WalkSpells
import Derived.Lib.Hide
import Derived.BigQuiet
import Derived.Deep.QuietTactic
import Derived.Deep.RegionHeld3
import Derived.Deep.RegionLaw
import Derived.Deep.DeepCutAuto
import Derived.Deep.DrawnRows
namespace Go.Proofs.Ytciicifdehicgaa.lenr
open Go.RowKit Mem
set_option linter.unusedVariables false

/-- A reader's cells: what is left of its text; it gives all at once. -/
structure RdAt (w : World) (R : Nat) (left : ByteArray) : Prop where
  c0 : w.cell? ⟨R, 0, none⟩ = some (.string left)
  c1 : w.cell? ⟨R, 1, none⟩ = some (.slice none 0 0)
  c3 : w.cell? ⟨R, 3, none⟩ = some (.bool false)
  f0 : w.frozen? ⟨R, 0, none⟩ = false
theorem RdAt.but {S : List Nat} {w w' : World} {R : Nat} {left : ByteArray} (h : RdAt w R left) (hb : But S w w') (hn : R ∉ S) : RdAt w' R left :=
  ⟨hb.cellAt h.c0 hn, hb.cellAt h.c1 hn, hb.cellAt h.c3 hn, (hb.frozen (block_lt_of_cell h.c0) hn).trans h.f0⟩

theorem RdAt.step {w : World} {R : Nat} {left : ByteArray} (h : RdAt w R left) (l : ByteArray) : RdAt (w.setCell ⟨R, 0, none⟩ (.string l)) R l :=
  ⟨World.cell?_setCell_same _ _ _ h.c0, (World.cell?_setCell_other _ _ _ _ (by simp)).trans h.c1, (World.cell?_setCell_other _ _ _ _ (by simp)).trans h.c3, by simpa using h.f0⟩

theorem read_end (R P n : Nat) (w : World) (v : Value) (h : RdAt w R ByteArray.empty) (hg : w.cell? ⟨1, 0, none⟩ = some v) :
    Calls Try.prog 43 #[.pointer (some ⟨R, 0, none⟩), .slice (some ⟨P, 0, none⟩) n n] w fun e w' => e = .returned (.tuple #[.int .i64 0, v]) ∧ w.drew = w' := by
  obtain ⟨c0, c1, c3, f0⟩ := h
  go_enter Try.func43, Try.ntmps43
  go_wp2
  go_region
  all_goals go_wp2
  go_ret2
  exact ⟨rfl, rfl⟩

theorem read_some (R P n m : Nat) (w : World) (left : ByteArray) (h : RdAt w R left) (hl : 0 < left.size) (hl2 : left.size ≤ 2147483647) (hn : n ≤ 5000) (hne : R ≠ P)
    (hmin : min (left.size : Int) (n : Int) = (m : Int)) (hm1 : m ≤ left.size) (hm2 : m ≤ n)
    (hc : ∀ j, j < n → (w.cell? ⟨P, j, none⟩).isSome = true) (hf : ∀ j, j < n → w.frozen? ⟨P, j, none⟩ = false) :
    Calls Try.prog 43 #[.pointer (some ⟨R, 0, none⟩), .slice (some ⟨P, 0, none⟩) n n] w fun e w' => e = .returned (.tuple #[.int .i64 m, .nilIface]) ∧ RdAt w' R (left.extract m left.size) ∧ But [R, P] w w' := by
  have h0 : ((left.size : Int) == 0) = false := beq_eq_false_iff_ne.2 (by omega)
  have hcp := copy_str w.drew 32 9 3 5 P 0 m n left Try.underlying32 (fun _ => by kernel_rfl) hm1 (fun j hj => by simpa using hc j (by omega)) (fun j hj => by simpa using hf j (by omega))
  have hb := (But.refl [P] w).drew.setCells (b := P) (Or.inl (by simp)) 0 ((left.data.toList.take m).map fun x => Value.int .u8 (x.toNat : Int))
  obtain ⟨w2, hw2⟩ : ∃ w2, w.drew.setCells P 0 ((left.data.toList.take m).map fun x => Value.int .u8 (x.toNat : Int)) = w2 := ⟨_, rfl⟩
  rw [hw2] at hcp hb
  clear hw2
  obtain ⟨c0', c1', c3', f0'⟩ := h.but hb (by simpa using hne)
  obtain ⟨c0, c1, c3, f0⟩ := h
  have hm1' : (m : Int) ≤ (left.size : Int) := by omega
  have hm0' : (0 : Int) ≤ (m : Int) := by omega
  have hm2' : (m : Int) ≤ (n : Int) := by omega
  have HCP := Lib.hid hcp
  have HB := Lib.hid hb
  clear hc hf hcp hb
  go_enter Try.func43, Try.ntmps43
  go_wp2
  refine region_tail 10 (by kernel_rfl) ?_
  simp only [List.take_succ_cons, List.take_zero, List.drop_succ_cons, List.drop_zero]
  repeat still_step
  refine wpStill_nil ?_
  have hcp := HCP.out
  go_wp2
  go_ret2
  have hd : RdAt w2 R left := ⟨c0', c1', c3', f0'⟩
  exact ⟨rfl, hd.step _, (HB.out.mono (by simp)).setCell (Or.inl (by simp)) _⟩

/-- A reader that is told how much it has: its inner reader's address, and what is left by its own count. -/
structure LnAt (w : World) (L R : Nat) (l : Int) : Prop where
  c0 : w.cell? ⟨L, 0, none⟩ = some (.iface 49 (.pointer (some ⟨R, 0, none⟩)))
  c1 : w.cell? ⟨L, 1, none⟩ = some (.int .i64 l)
  f1 : w.frozen? ⟨L, 1, none⟩ = false
theorem LnAt.but {S : List Nat} {w w' : World} {L R : Nat} {l : Int} (h : LnAt w L R l) (hb : But S w w') (hn : L ∉ S) : LnAt w' L R l :=
  ⟨hb.cellAt h.c0 hn, hb.cellAt h.c1 hn, (hb.frozen (p := ⟨L, 1, none⟩) (block_lt_of_cell h.c1) hn).trans h.f1⟩
theorem LnAt.step {w : World} {L R : Nat} {l : Int} (h : LnAt w L R l) (l' : Int) : LnAt (w.setCell ⟨L, 1, none⟩ (.int .i64 l')) L R l' :=
  ⟨(World.cell?_setCell_other _ _ _ _ (by simp)).trans h.c0, World.cell?_setCell_same _ _ _ h.c1, by simpa using h.f1⟩

theorem len44 (L R : Nat) (l : Int) (w : World) (h : LnAt w L R l) :
    Calls Try.prog 44 #[.pointer (some ⟨L, 0, none⟩)] w fun e w' => e = .returned (.int .i64 l) ∧ w = w' := by
  obtain ⟨c0, c1, f1⟩ := h
  go_enter Try.func44, Try.ntmps44
  go_wp2
  go_ret
  exact ⟨rfl, rfl⟩

theorem method_read (a : Addr) (w : World) : (method 192 49 (.pointer (some a)) "Read").run Try.prog w = .ok (43, .pointer (some a)) w := by kernel_rfl

/-- How many bytes come, and what is left then. -/
def came (n : Nat) (left : ByteArray) : Nat := min left.size n
theorem read45 (L R P n : Nat) (l : Int) (left : ByteArray) (w : World) (v : Value) (hL : LnAt w L R l) (hR : RdAt w R left) (hg : w.cell? ⟨1, 0, none⟩ = some v)
    (hl2 : left.size ≤ 2147483647) (hn : n ≤ 5000) (hRP : R ≠ P) (hLP : L ≠ P) (hLR : L ≠ R) (hb1 : -1000000 ≤ l) (hb2 : l ≤ 1000000)
    (hc : ∀ j, j < n → (w.cell? ⟨P, j, none⟩).isSome = true) (hf : ∀ j, j < n → w.frozen? ⟨P, j, none⟩ = false) :
    Calls Try.prog 45 #[.pointer (some ⟨L, 0, none⟩), .slice (some ⟨P, 0, none⟩) n n] w fun e w' => (∃ x, e = .returned x) ∧ LnAt w' L R (l - came n left) ∧ RdAt w' R (left.extract (came n left) left.size) ∧ But [L, R, P] w w' := by
  have hmr := method_read ⟨R, 0, none⟩
  by_cases h0 : left.size = 0
  · have he : left = ByteArray.empty := by
      cases left with
      | mk d => simp [ByteArray.size] at h0; subst h0; rfl
    subst he
    have e0 : came n ByteArray.empty = 0 := by unfold came; exact Nat.zero_min _
    have e1 : ByteArray.empty.extract 0 ByteArray.empty.size = ByteArray.empty := by rfl
    rw [e0, e1]
    have HL := hL
    obtain ⟨c0, c1, f1⟩ := hL
    have HR := Lib.hid hR
    have HG := Lib.hid hg
    have HLL := Lib.hid HL
    clear hR hg hc hf HL
    go_enter Try.func45, Try.ntmps45
    go_wp2_with (go_at_call 43; refine (read_end R P n _ v HR.out HG.out).mono ?_; rintro e w1 ⟨rfl, rfl⟩)
    go_ret2
    have hb : But [L, R, P] w w.drew := (But.refl _ _).drew
    have hl : LnAt w.drew L R l := ⟨HLL.out.c0, HLL.out.c1, HLL.out.f1⟩
    have hr : RdAt w.drew R ByteArray.empty := ⟨HR.out.c0, HR.out.c1, HR.out.c3, HR.out.f0⟩
    have hs : But [L] w.drew (w.drew.setCell ⟨L, 1, none⟩ (.int .i64 l)) := (But.refl _ _).setCell (Or.inl (by simp)) _
    refine ⟨⟨_, rfl⟩, ?_, ?_, ?_⟩
    · rw [show (l - ((0 : Nat) : Int)) = l from by simp]; exact hl.step l
    · exact hr.but hs (by simpa using Ne.symm hLR)
    · exact hb.trans (hs.mono (by simp))
  · have hm : ((came n left : Nat) : Int) = min (left.size : Int) (n : Int) := by unfold came; omega
    have hm1 : came n left ≤ left.size := Nat.min_le_left _ _
    have hm2 : came n left ≤ n := Nat.min_le_right _ _
    generalize came n left = m at *
    have HL := Lib.hid hL
    obtain ⟨c0, c1, f1⟩ := hL
    have HR := Lib.hid hR
    have HC := Lib.hid hc
    have HF := Lib.hid hf
    have HM := Lib.hid hm
    clear hR hg hc hf hm
    go_enter Try.func45, Try.ntmps45
    go_wp2_with fail
    refine (read_some R P n m _ left HR.out (by omega) hl2 hn hRP HM.out.symm hm1 hm2 HC.out HF.out).mono ?_
    rintro e w1 ⟨rfl, hr1, hb1⟩
    have hl1 := HL.out.but hb1 (by simp [hLR, hLP])
    have HL1 := Lib.hid hl1
    obtain ⟨d0, d1, g1⟩ := hl1
    have HB1 := Lib.hid hb1
    have HR1 := Lib.hid hr1
    clear hb1 hr1
    go_wp2
    go_ret2
    have hs : But [L] w1 (w1.setCell ⟨L, 1, none⟩ (.int .i64 (l - m))) := (But.refl _ _).setCell (Or.inl (by simp)) _
    refine ⟨⟨_, rfl⟩, HL1.out.step _, HR1.out.but hs (by simpa using Ne.symm hLR), ?_⟩
    exact (HB1.out.mono (by simp)).trans (hs.mono (by simp))


theorem new22 (s : ByteArray) (w : World) :
    Calls Try.prog 22 #[.string s, .slice none 0 0, .bool false] w fun e w' => e = .returned (.pointer (some ⟨w.heap.size, 0, none⟩)) ∧ RdAt w' w.heap.size s ∧ But [] w w' := by
  go_enter Try.func22, Try.ntmps22
  go_wp2
  refine wp_loop_once ?_
  go_wp2
  go_ret
  have hb : But [] w (w.alloc (.cells #[.string s, .slice none 0 0, .int .i64 0, .bool false] 64)) := (But.refl _ _).alloc _
  have hh := heap_alloc_new w (.cells #[.string s, .slice none 0 0, .int .i64 0, .bool false] 64)
  exact ⟨rfl, ⟨cell_of_row _ _ 0 _ _ _ hh, cell_of_row _ _ 1 _ _ _ hh, cell_of_row _ _ 3 _ _ _ hh, frozen_of_row _ _ 0 _ _ hh⟩, hb⟩
theorem new21 (R : Nat) (l : Int) (w : World) :
    Calls Try.prog 21 #[.iface 49 (.pointer (some ⟨R, 0, none⟩)), .int .i64 l] w fun e w' => e = .returned (.iface 60 (.pointer (some ⟨w.heap.size, 0, none⟩))) ∧ LnAt w' w.heap.size R l ∧ But [] w w' := by
  go_enter Try.func21, Try.ntmps21
  go_wp2
  go_ret
  have hb : But [] w (w.alloc (.cells #[.iface 49 (.pointer (some ⟨R, 0, none⟩)), .int .i64 l] 62)) := (But.refl _ _).alloc _
  have hh := heap_alloc_new w (.cells #[.iface 49 (.pointer (some ⟨R, 0, none⟩)), .int .i64 l] 62)
  exact ⟨rfl, ⟨cell_of_row _ _ 0 _ _ _ hh, cell_of_row _ _ 1 _ _ _ hh, frozen_of_row _ _ 1 _ _ hh⟩, hb⟩

theorem method_len (a : Addr) (w : World) : (method 192 60 (.pointer (some a)) "Len").run Try.prog w = .ok (44, .pointer (some a)) w := by kernel_rfl
theorem method_read2 (a : Addr) (w : World) : (method 192 60 (.pointer (some a)) "Read").run Try.prog w = .ok (45, .pointer (some a)) w := by kernel_rfl


theorem own_of {w : World} {B : Nat} {e : TypeId} {v : Value} {n : Nat} {xs : List Value} (h : w.ownsRow B e 1 v n xs) : ∀ k, v.ownBlock = some k → B ≤ k ∧ k < w.heap.size := h.lt

/-- What the loop keeps: the reader, its wrapper, the list so far. -/
structure St (w0 w : World) (V O L R B : Nat) (left : ByteArray) (l : Int) (v : Value) (xs : List Value) : Prop where
  rd : RdAt w R left
  ln : LnAt w L R l
  vc : w.cell? ⟨V, 0, none⟩ = some v
  vf : w.frozen? ⟨V, 0, none⟩ = false
  oc : w.cell? ⟨O, 0, none⟩ = some (.bool false)
  of : w.frozen? ⟨O, 0, none⟩ = false
  own : w.ownsRow B 3 1 v xs.length xs
  but : But [] w0 w
  hB : B ≤ w.heap.size
/-- The blocks' numbers. -/
structure Nums (w0 : World) (V O L R B : Nat) : Prop where
  v0 : w0.heap.size ≤ V
  o0 : w0.heap.size ≤ O
  l0 : w0.heap.size ≤ L
  r0 : w0.heap.size ≤ R
  vB : V < B
  oB : O < B
  lB : L < B
  rB : R < B
  vo : V ≠ O
  vl : V ≠ L
  vr : V ≠ R
  ol : O ≠ L
  or : O ≠ R
  lr : L ≠ R


theorem Try.info3 : (Try.prog.info? 3).map (fun i => (i.zero, i.size, i.bytes)) = some (some (.int .i64 0), 1, 8) := by kernel_rfl

theorem St.start (s : ByteArray) (n : Int) (w w1 w2 : World) (W : World) (hW : W = (w.alloc (.cells #[.slice none 0 0] 34)).alloc (.cells #[.bool false] 4))
    (hr1 : RdAt w1 W.heap.size s) (hb1 : But [] W w1) (hl2 : LnAt w2 w1.heap.size W.heap.size n) (hb2 : But [] w1 w2) :
    St w w2 w.heap.size (w.heap.size + 1) w1.heap.size W.heap.size w2.heap.size s n (.slice none 0 0) [] ∧ Nums w w.heap.size (w.heap.size + 1) w1.heap.size W.heap.size w2.heap.size := by
  have hs : W.heap.size = w.heap.size + 1 + 1 := by subst hW; simp
  have h0 : But [] w W := by subst hW; exact ((But.refl _ _).alloc _).alloc _
  have h1 : W.heap[w.heap.size]? = some (.cells #[.slice none 0 0] 34) := by subst hW; exact heap_alloc2_old _ _ _
  have h2 : W.heap[w.heap.size + 1]? = some (.cells #[.bool false] 4) := by subst hW; exact heap_alloc2_new _ _ _
  have h3 : W.heap.size < w1.heap.size := block_lt_of_cell hr1.c0
  have h4 : w1.heap.size < w2.heap.size := block_lt_of_cell hl2.c0
  have hb : But [] W w2 := hb1.trans hb2
  have g1 := hb.heapAt h1 (by simp)
  have g2 := hb.heapAt h2 (by simp)
  exact ⟨⟨hr1.but hb2 (by simp), hl2, cell_of_row _ _ 0 _ _ _ g1, frozen_of_row _ _ 0 _ _ g1, cell_of_row _ _ 0 _ _ _ g2, frozen_of_row _ _ 0 _ _ g2, World.ownsRow_nil _ _ _ _, h0.trans hb, Nat.le_refl _⟩,
    ⟨by omega, by omega, by omega, by omega, by omega, by omega, by omega, by omega, by omega, by omega, by omega, by omega, by omega, by omega⟩⟩

theorem keepA {w : World} {p : Addr} {v : Value} (h1 : w.cell? p = some v) (h2 : w.frozen? p = false) (c : Array Value) (t : TypeId) :
    (w.alloc (.cells c t)).drew.cell? p = some v ∧ (w.alloc (.cells c t)).drew.frozen? p = false :=
  ⟨((But.refl [] w).alloc _).drew.cellAt h1 (by simp), (frozen?_alloc_cells _ _ _ _).trans h2⟩
theorem keepG {w w' : World} {row : Option Nat} (hg : w.grownBy w' row) {p : Addr} {v : Value} (h1 : w.cell? p = some v) (h2 : w.frozen? p = false) (hne : some p.block ≠ row) :
    w'.cell? p = some v ∧ w'.frozen? p = false :=
  ⟨(hg.cell_far _ (block_lt_of_cell h1) hne).trans h1, (hg.frozen_far _ (block_lt_of_cell h1) hne).trans h2⟩
theorem ownBlock_ne {w : World} {B : Nat} {e : TypeId} {v : Value} {n : Nat} {xs : List Value} (h : w.ownsRow B e 1 v n xs) {k : Nat} (hk : k < B) : some k ≠ v.ownBlock := by
  intro e
  have := (h.lt k e.symm).1
  omega

/-- Behind an append to the list, and its store. -/
theorem St.appended {w0 w2 wa w3 : World} {V O L R B : Nat} {left : ByteArray} {l : Int} {v v' x : Value} {xs : List Value} (h : St w0 w2 V O L R B left l v xs) (n : Nums w0 V O L R B)
    (hwa : But [] w2 wa) (hown : w3.ownsRow B 3 1 v' (xs.length + 1) (xs ++ [x])) (hg : wa.grownBy w3 v.ownBlock) :
    St w0 (w3.setCell ⟨V, 0, none⟩ v') V O L R B left l v' (xs ++ [x]) := by
  have hs := hwa.size
  have hB := h.hB
  have row : ∀ k, v.ownBlock = some k → B ≤ k := fun k e => (h.own.lt k e).1
  have b3 : But v.ownBlock.toList w2 w3 := (hwa.mono (fun k e => by cases e)).grown hg (fun k e => Or.inl (by simp [e]))
  have far : ∀ k, k < B → k ∉ v.ownBlock.toList := fun k hk e => by
    have := row k (by simpa using e)
    omega
  have b4 : But [V] w3 (w3.setCell ⟨V, 0, none⟩ v') := (But.refl _ _).setCell (Or.inl (by simp)) _
  have hl : (xs ++ [x]).length = xs.length + 1 := by simp
  have vc3 := b3.cellAt h.vc (far V n.vB)
  refine ⟨(h.rd.but b3 (far R n.rB)).but b4 (by simpa using Ne.symm n.vr), (h.ln.but b3 (far L n.lB)).but b4 (by simpa using Ne.symm n.vl), World.cell?_setCell_same _ _ _ vc3, ?_, ?_, ?_, ?_, ?_, ?_⟩
  · simpa using (b3.frozen (p := ⟨V, 0, none⟩) (block_lt_of_cell h.vc) (far V n.vB)).trans h.vf
  · exact b4.cellAt (b3.cellAt h.oc (far O n.oB)) (by simpa using Ne.symm n.vo)
  · simpa using (b3.frozen (p := ⟨O, 0, none⟩) (block_lt_of_cell h.oc) (far O n.oB)).trans h.of
  · rw [hl]
    exact hown.kept (row := some V) ⟨rfl, rfl, rfl, by simp [World.setCell], fun k hk hne => Below.heap_setCell _ _ _ _ (fun e => hne (by rw [e]))⟩ (Or.inr (Ne.symm (ownBlock_ne hown n.vB)))
  · refine ((h.but.join b3 (fun _ e => e) (fun k e hk => ?_)).setCell (Or.inr n.v0) _)
    have := row k (by simpa using e)
    have := n.v0
    have := n.vB
    omega
  · have := b3.size
    simp [World.setCell]
    omega
/-- What is left of the text, by the count, and the list, behind one size more. -/
def stepL (t : ByteArray × Int × List Int) (z : Int) : ByteArray × Int × List Int :=
  (t.1.extract (came z.toNat t.1) t.1.size, t.2.1 - came z.toNat t.1, t.2.2 ++ [t.2.1 - came z.toNat t.1])
def stateL (s : ByteArray) (n : Int) (zs : List Int) : ByteArray × Int × List Int := zs.foldl stepL (s, n, [n])
theorem stateL_snoc (s : ByteArray) (n : Int) (zs : List Int) (k : Nat) (h : k < zs.length) : stateL s n (zs.take (k + 1)) = stepL (stateL s n (zs.take k)) (zs.getD k 0) := by
  unfold stateL
  rw [List.take_succ_eq_append_getElem h, List.foldl_append]
  simp [List.getD, List.getElem?_eq_getElem h]
theorem stepL_inv (t : ByteArray × Int × List Int) (z : Int) : (stepL t z).1.size + came z.toNat t.1 = t.1.size ∧ (stepL t z).2.1 = t.2.1 - came z.toNat t.1 ∧ (stepL t z).2.2.length = t.2.2.length + 1 := by
  have hm : came z.toNat t.1 ≤ t.1.size := Nat.min_le_left _ _
  refine ⟨?_, rfl, by simp [stepL]⟩
  simp [stepL, ByteArray.size_extract]
  omega
theorem stateL_inv (s : ByteArray) (n : Int) (zs : List Int) : ∀ k, k ≤ zs.length → (stateL s n (zs.take k)).1.size ≤ s.size ∧ (stateL s n (zs.take k)).2.1 + ((s.size : Int) - (stateL s n (zs.take k)).1.size) = n ∧ (stateL s n (zs.take k)).2.2.length = k + 1 := by
  intro k
  induction k with
  | zero => intro _; simp [stateL]
  | succ k ih =>
    intro hk
    obtain ⟨h1, h2, h3⟩ := ih (by omega)
    obtain ⟨g1, g2, g3⟩ := stepL_inv (stateL s n (zs.take k)) (zs.getD k 0)
    rw [stateL_snoc s n zs k (by omega)]
    refine ⟨by omega, by omega, by omega⟩

end Go.Proofs.Ytciicifdehicgaa.lenr
