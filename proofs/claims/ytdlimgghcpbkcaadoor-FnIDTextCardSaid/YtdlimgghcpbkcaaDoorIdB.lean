/-
  Proved: the contracts of NewOpts, of the byte pool's get and put, and of (BlobStringBytes).MarshalRESP into a bytes.Buffer.
  Conditions: each contract's own (a text of at most 1000 bytes; the table of the powers of ten).
-/
import Derived.Test.YtdlimgghcpbkcaaDoorIdW
import Derived.Lib.BufferAt
import Derived.Deep.DeepCutAuto
import Derived.Deep.DrawnRows
namespace Go.Proofs.YtdlimgghcpbkcaaDoor.ids
open Go.RowKit Mem
set_option linter.unusedVariables false

/-- The byte pool: its three cells. -/
structure PoolAt (w : World) (P : Nat) : Prop where
  row : w.heap[P]? = some (.cells #[.int .i64 0, .int .i64 10000000, .slice none 0 0] 120 (0, 0))
theorem pool32 (w : World) :
    Calls Tryd.prog 32 #[.int .i64 10000000] w fun e w' => e = .returned (.pointer (some ⟨w.heap.size, 0, none⟩)) ∧ PoolAt w' w.heap.size ∧ But [] w w' := by
  go_enter Tryd.func32, Tryd.ntmps32
  go_wp2
  go_ret
  exact ⟨rfl, ⟨heap_alloc_new w _⟩, (But.refl _ _).alloc _⟩
theorem rpool33 (w : World) :
    Calls Tryd.prog 33 #[] w fun e w' => (∃ k, e = .returned (.pointer (some ⟨k, 0, none⟩))) ∧ But [] w w' := by
  go_enter Tryd.func33, Tryd.ntmps33
  go_wp2
  go_ret
  exact ⟨⟨_, rfl⟩, (But.refl _ _).alloc _⟩
/-- What NewOpts makes, as far as it is read here. -/
structure OptsAt (w : World) (O P : Nat) : Prop where
  get : w.cell? ⟨O, 0, none⟩ = some (.func (.func 34) #[.pointer (some ⟨P, 0, none⟩)] #[])
  put : w.cell? ⟨O, 1, none⟩ = some (.func (.func 35) #[.pointer (some ⟨P, 0, none⟩)] #[])
  pool : PoolAt w P
theorem opts23 (w : World) :
    Calls Tryd.prog 23 #[] w fun e w' => ∃ O P, e = .returned (.pointer (some ⟨O, 0, none⟩)) ∧ OptsAt w' O P ∧ w.heap.size ≤ O ∧ w.heap.size ≤ P ∧ P < O ∧ But [] w w' := by
  have hmf : ∀ (fn : Fn) (first cap : Array Value) (w : World), (Instr.makeFunc fn first cap).run Tryd.prog w = .ok (.func fn first cap) w := fun _ _ _ _ => rfl
  go_enter Tryd.func23, Tryd.ntmps23
  go_wp2_with fail
  refine (pool32 _).mono ?_
  rintro e w1 ⟨rfl, hp, hb1⟩
  have hz1 := (Array.getElem?_eq_some_iff.1 hp.row).1
  have HP := Lib.hid hp
  have HB1 := Lib.hid hb1
  clear hp hb1
  go_wp2_with fail
  refine (rpool33 _).mono ?_
  rintro e w2 ⟨⟨k2, rfl⟩, hb2⟩
  have HB2 := Lib.hid hb2
  have hz2 := hb2.size
  clear hb2
  go_wp2
  go_ret
  refine ⟨w2.heap.size, w.heap.size, rfl, ⟨?_, ?_, ⟨?_⟩⟩, by omega, Nat.le_refl _, by omega, (HB1.out.trans HB2.out).alloc _⟩
  · exact cell_of_row _ _ 0 _ _ _ (heap_alloc_new w2 _)
  · exact cell_of_row _ _ 1 _ _ _ (heap_alloc_new w2 _)
  · exact (HB2.out.alloc _).heapAt HP.out.row (by simp)

/-- A slice of bytes that a pointer leads to. -/
structure BB (w : World) (B X : Nat) (v : Value) (l : List UInt8) : Prop where
  cell : w.heap[X]? = some (.cells #[v] 45 (0, 0))
  own : w.ownsRow B 5 1 v l.length (Lib.byteCells l)
  lo : B ≤ X
theorem get34 (P : Nat) (w : World) (h : PoolAt w P) :
    Calls Tryd.prog 34 #[.pointer (some ⟨P, 0, none⟩)] w fun e w' => ∃ X v, e = .returned (.pointer (some ⟨X, 0, none⟩)) ∧ BB w' w.heap.size X v [] ∧ But [] w w' := by
  have c2 : w.cell? ⟨P, 2, none⟩ = some (.slice none 0 0) := cell_of_row _ _ 2 _ _ _ h.row
  have hmk : ∀ w : World, (Instr.makeSlice 45 (.int .i64 0) (.int .i64 32)).run Tryd.prog w = .ok (.slice (some ⟨w.heap.size, 0, none⟩) 0 32) (w.alloc (.cells (madeCells #[.int .u8 0] 32) 5)) := fun w => make_row w 0 32 (by omega) (by omega)
  clear h
  go_enter Tryd.func34, Tryd.ntmps34
  go_wp2
  go_ret
  refine ⟨w.heap.size + 1, .slice (some ⟨w.heap.size, 0, none⟩) 0 32, rfl, ⟨?_, ?_, by omega⟩, ((But.refl _ _).alloc _).alloc _⟩
  · have h := heap_alloc_new (w.alloc (.cells (madeCells #[.int .u8 0] 32) 5)) (.cells #[.slice (some ⟨w.heap.size, 0, none⟩) 0 32] 45)
    have e : (w.alloc (.cells (madeCells #[.int .u8 0] 32) 5)).heap.size = w.heap.size + 1 := by simp
    rw [e] at h
    exact h
  · refine World.ownsRow.alloc ?_ _
    exact ⟨rfl, .inr ⟨w.heap.size, 32, _, rfl, Nat.le_refl _, heap_alloc_new w _, by simp, by unfold maxLen; omega, by simp [madeCells], by simp [Lib.byteCells]⟩⟩

theorem info_ptr : (Tryd.prog.info? 56).map (fun i => (i.zero, i.size, i.bytes)) = some (some (.pointer none), 1, 8) := by kernel_rfl
theorem app_ptr {w : World} {ops : Array Oper} {rest : List Oper} {o : Oper} {a : Act} {Q : Exit → Act → World → Prop} (hgd : o.guard = none) (s x : Operand)
    (ho : o.op = .call { callee := .builtin .append, args := #[s, x], argTypes := #[118, 118] }) (A : Nat) (p : Addr) (hs : a.eval s = .slice none 0 0) (hx : a.eval x = .slice (some ⟨A, 0, none⟩) 1 1)
    (hb : w.heap[A]? = some (.cells #[.pointer (some p)] 56 (0, 0)))
    (h : ∀ g cap w', w.grownBy w' none → wpList Tryd.prog ops Q rest (a.put o.dst (.slice (some ⟨g, 0, none⟩) 1 cap)) w') : wpList Tryd.prog ops Q (o :: rest) a w := by
  obtain ⟨i, hi, hz, hz1, hz2⟩ := info_parts info_ptr
  exact wpList_append_lies w hgd s x 118 ho w.heap.size 56 i (.pointer none) 1 8 Tryd.underlying118 hi hz hz1 hz2 rfl (by omega) (.slice none 0 0) 0 [] hs (World.ownsRow_nil _ _ _ _) ⟨A, 0, none⟩ 1 1 [.pointer (some p)] hx rfl
    (World.news_of_block (cs := #[.pointer (some p)]) (t := 56) (fr := (0, 0)) hb) (by simp [Value.oneCell']) (by omega) (by unfold maxLen; omega) (by omega) (Nat.le_refl _) _ rfl (fun g cap w' _ h3 _ _ => h g cap w' h3)
set_option maxHeartbeats 4000000 in
theorem put35 (P X : Nat) (a : Option Addr) (n cap : Nat) (hc : cap ≤ 9223372036854775807) (w : World) (h : PoolAt w P) (hx : w.heap[X]? = some (.cells #[.slice a n cap] 45 (0, 0))) (hPX : ¬ P = X) :
    CallsD Tryd.prog 35 #[.pointer (some ⟨P, 0, none⟩), .pointer (some ⟨X, 0, none⟩)] .returning w fun e u' w' => u' = .returning ∧ (e = .returned (.tuple #[]) ∧ But [P, X] w w') := by
  have c0 : w.cell? ⟨P, 0, none⟩ = some (.int .i64 0) := cell_of_row _ _ 0 _ _ _ h.row
  have c1 : w.cell? ⟨P, 1, none⟩ = some (.int .i64 10000000) := cell_of_row _ _ 1 _ _ _ h.row
  have c2 : w.cell? ⟨P, 2, none⟩ = some (.slice none 0 0) := cell_of_row _ _ 2 _ _ _ h.row
  have f0 : w.frozen? ⟨P, 0, none⟩ = false := frozen_of_row _ _ 0 _ _ h.row
  have f2 : w.frozen? ⟨P, 2, none⟩ = false := frozen_of_row _ _ 2 _ _ h.row
  have x0 : w.cell? ⟨X, 0, none⟩ = some (.slice a n cap) := cell_of_row _ _ 0 _ _ _ hx
  have fx : w.frozen? ⟨X, 0, none⟩ = false := frozen_of_row _ _ 0 _ _ hx
  have hXP : ¬ X = P := fun e => hPX e.symm
  have hPl := block_lt_of_cell c0
  have hXl := block_lt_of_cell x0
  have hPn : ¬ w.heap.size = P := by simp at hPl; omega
  have hPn2 : ¬ w.heap.size + 1 = P := by simp at hPl; omega
  simp only at hPl hXl
  clear h hx
  go_enter_d Tryd.func35, Tryd.ntmps35
  go_wp2_with fail
  go_region
  all_goals go_wp2_with fail
  by_cases hg : 10000000 < cap
  · have hg2 : (10000000 : Int) < (cap : Int) := by omega
    go_region
    all_goals go_wp2
    all_goals
      go_returns
      exact ⟨rfl, (((But.refl _ w).setCell (Or.inl (by simp)) _).drewN (n := 1)).drewN (n := 1) |>.setCell (Or.inl (by simp)) _⟩
  · have hg2 : ¬ (10000000 : Int) < (cap : Int) := by omega
    go_region
    have hbA : ∀ (W : World) (o : Obj), W.heap.size = w.heap.size → (W.alloc o).drew.drew.heap[w.heap.size]? = some o := fun W o e => e ▸ heap_alloc_new W o
    obtain ⟨Wb, hWb⟩ : ∃ Wb, (((w.setCell ⟨P, 0, none⟩ (.int .i64 cap)).setCell ⟨X, 0, none⟩ (.slice a 0 cap)).alloc (.cells #[.pointer (some ⟨X, 0, none⟩)] 56)).drew.drew = Wb := ⟨_, rfl⟩
    have d0 : But [] ((w.setCell ⟨P, 0, none⟩ (.int .i64 cap)).setCell ⟨X, 0, none⟩ (.slice a 0 cap)) Wb := hWb ▸ (((But.refl _ _).alloc _).drew).drew
    have d1 : Wb.cell? ⟨P, 2, none⟩ = some (.slice none 0 0) := d0.cellAt (((World.cell?_setCell_other _ _ _ _ (by simp)).trans (World.cell?_setCell_other _ _ _ _ (by simp))).trans c2) (by simp)
    have d2 : Wb.frozen? ⟨P, 2, none⟩ = false := (d0.frozen (p := ⟨P, 2, none⟩) (by simpa [World.setCell] using hPl) (by simp)).trans (by simpa using f2)
    have d3 : Wb.heap[w.heap.size]? = some (.cells #[.pointer (some ⟨X, 0, none⟩)] 56 (0, 0)) := by rw [← hWb]; exact hbA _ _ (by simp [World.setCell])
    have d4 : But [P, X] w Wb := by
      rw [← hWb]
      exact (((((But.refl _ w).setCell (Or.inl (by simp)) _).setCell (Or.inl (by simp)) _).alloc _).drew).drew
    have D3 := Lib.hid d3
    have D4 := Lib.hid d4
    clear d3 d4 hbA d0
    all_goals go_wp2_with (at_builtin; refine app_ptr rfl _ _ rfl w.heap.size ⟨X, 0, none⟩ rfl rfl (by first | exact D3.out | (rw [hWb]; exact D3.out)) ?_; intro g cap2 w2 hgr2; (try rw [hWb] at hgr2); have k2 := (hgr2.cell_far ⟨P, 2, none⟩ (block_lt_of_cell d1) (by simp)).trans d1; have k3 := (hgr2.frozen_far ⟨P, 2, none⟩ (block_lt_of_cell d1) (by simp)).trans d2; have HG := Lib.hid hgr2; clear hgr2)
    all_goals
      go_returns
      exact ⟨rfl, (D4.out.grown HG.out (fun k hk => by cases hk)).setCell (Or.inl (by simp)) _⟩
end Go.Proofs.YtdlimgghcpbkcaaDoor.ids
