/-
  Proved: the contract of impl.ValueGet where the value can be made: of the kind asked for, of another one (a panic that is caught).
  Conditions: each contract's own.
-/
import Derived.Test.YtkibdomfiodilaaDoorValH
namespace Go.Proofs.YtkibdomfiodilaaDoor.val
open Go.RowKit Mem rw
set_option linter.unusedVariables false
attribute [local go_sem] store_float

/-- A value is made, and what the accessor does with it then. -/
def Made (Q : World → Ending → World → Prop) (kind : Int) (w : World) (e : Ending) (w' : World) : Prop :=
  ∃ (n0 : Int) (a : Option Addr) (l c : Nat) (q : Int), e = .returned (.tuple #[.agg #[.int .u64 n0, .slice a l c, .int .u8 q], .bool true]) ∧
    Hid (But [] w w' ∧ ∀ w3, But [] w' w3 → Calls Tryd.prog 24 #[.agg #[.int .u64 n0, .slice a l c, .int .u8 q], .int .i64 kind] w3 (Q w3))
def AccOut (r : Value) (w : World) (e : Ending) (w' : World) : Prop := e = .returned r ∧ Hid (But [] w w')
def AccBad (w : World) (e : Ending) (w' : World) : Prop := PanicStr e ∧ Hid (But [] w w')
/-- The world behind the stores of a value, and of true. -/
def stored6 (w : World) (p q : Nat) (a0 a1 a2 a3 a4 a5 : Value) : World :=
  (((((((w.setCell ⟨p, 0, none⟩ a0).setCell ⟨p, 1, none⟩ a1).setCell ⟨p, 2, none⟩ a2).setCell ⟨p, 3, none⟩ a3).setCell ⟨p, 4, none⟩ a4).setCell ⟨p, 5, none⟩ a5).setCell ⟨q, 0, none⟩ (.bool true))
theorem stored6_rows {w : World} {p q : Nat} {l : List Value} (hl : l.length = 6) (hp : Rw w p l 25) (hq : Rw w q [.bool false] 4) (hpq : p ≠ q) (a0 a1 a2 a3 a4 a5 : Value) :
    Rw (stored6 w p q a0 a1 a2 a3 a4 a5) p [a0, a1, a2, a3, a4, a5] 25 ∧ Rw (stored6 w p q a0 a1 a2 a3 a4 a5) q [.bool true] 4 ∧ But [p, q] w (stored6 w p q a0 a1 a2 a3 a4 a5) := by
  match l, hl with
  | [b0, b1, b2, b3, b4, b5], _ =>
  have h1 := Rw.set (Rw.set (Rw.set (Rw.set (Rw.set (Rw.set hp 0 a0) 1 a1) 2 a2) 3 a3) 4 a4) 5 a5
  have b1 : But [p] w ((((((w.setCell ⟨p, 0, none⟩ a0).setCell ⟨p, 1, none⟩ a1).setCell ⟨p, 2, none⟩ a2).setCell ⟨p, 3, none⟩ a3).setCell ⟨p, 4, none⟩ a4).setCell ⟨p, 5, none⟩ a5) :=
    ((((((But.refl [p] w).setCell (Or.inl (by simp)) _).setCell (Or.inl (by simp)) _).setCell (Or.inl (by simp)) _).setCell (Or.inl (by simp)) _).setCell (Or.inl (by simp)) _).setCell (Or.inl (by simp)) _
  refine ⟨Rw.but h1 ((But.refl [q] _).setCell (Or.inl (by simp)) _) (by simpa using hpq), ?_, (b1.mono (by simp)).setCell (Or.inl (by simp)) _⟩
  exact Rw.set (Rw.but hq b1 (by simpa using Ne.symm hpq)) 0 (.bool true)

set_option maxRecDepth 100000 in
set_option maxHeartbeats 1000000 in
theorem get_yes (k : Int) (s : ByteArray) (n u : Int) (f : Nat) (b : Bool) (kind : Int) (hk1 : 1 ≤ kind) (hk5 : kind ≤ 5) (a0 : Int) (a1 : ByteArray) (a2 a3 : Int) (a4 : Nat) (a5 : Bool) (w : World)
    (hcon : ∀ w', But [] w w' → Calls Tryd.prog 23 #[vA k s n u f b] w' (Made (AccOut (.agg #[.int .i64 a0, .string a1, .int .i64 a2, .int .u64 a3, .float .f64 a4, .bool a5])) kind w')) :
    Calls Tryd.prog 9 #[vA k s n u f b, .int .i64 kind] w (GetOut w (.agg #[.int .i64 a0, .string a1, .int .i64 a2, .int .u64 a3, .float .f64 a4, .bool a5]) true) := by
  have hmf : ∀ (fn : Fn) (first cap : Array Value) (w : World), (Instr.makeFunc fn first cap).run Tryd.prog w = .ok (.func fn first cap) w := fun _ _ _ _ => rfl
  have HC := Lib.hid hcon
  have hst := start_rows w (.cells #[.int .i64 k, .string s, .int .i64 n, .int .u64 u, .float .f64 f, .bool b] 25)
  have HS := Lib.hid hst
  clear hcon hst
  go_enter_defers Tryd.func9, Tryd.ntmps9
  go_wp2_with fail
  refine (HC.out _ HS.out.1).mono ?_
  rintro e w1 ⟨n0, a, l, c, q, rfl, H1⟩
  have hl : w.heap.size + 1 + 1 < w1.heap.size := by have := H1.out.1.size; have := HS.out.2.1; omega
  go_wp2_with fail
  refine (H1.out.2 _ ((But.refl [] w1).alloc _)).mono ?_
  rintro e w2 ⟨rfl, b2⟩
  have ba : But [] w1 w2 := ((But.refl [] w1).alloc _).trans b2.out
  have r0 := Rw.but HS.out.2.2.1 (H1.out.1.trans ba) (by simp)
  have r1 := Rw.but HS.out.2.2.2 (H1.out.1.trans ba) (by simp)
  have c0 := Rw.cell r0 0
  have c1 := Rw.cell r0 1
  have c2 := Rw.cell r0 2
  have c3 := Rw.cell r0 3
  have c4 := Rw.cell r0 4
  have c5 := Rw.cell r0 5
  have d0 := Rw.cell r1 0
  simp only [zcells, List.getElem?_cons_zero, List.getElem?_cons_succ] at c0 c1 c2 c3 c4 c5 d0
  have z0 := Rw.fz r0 0
  have z1 := Rw.fz r0 1
  have z2 := Rw.fz r0 2
  have z3 := Rw.fz r0 3
  have z4 := Rw.fz r0 4
  have z5 := Rw.fz r0 5
  have y0 := Rw.fz r1 0
  have hg := stored6_rows rfl r0 r1 (by omega) (.int .i64 a0) (.string a1) (.int .i64 a2) (.int .u64 a3) (.float .f64 a4) (.bool a5)
  have BB := Lib.hid (((HS.out.1.trans (H1.out.1.trans ba)).join hg.2.2 (fun _ e => e) (fun x hx hlt => by simp at hx; omega)))
  have HG := Lib.hid hg
  clear r0 r1 ba b2 hg
  go_wp2
  have e0 := Rw.cell HG.out.1 0
  have e1 := Rw.cell HG.out.1 1
  have e2 := Rw.cell HG.out.1 2
  have e3 := Rw.cell HG.out.1 3
  have e4 := Rw.cell HG.out.1 4
  have e5 := Rw.cell HG.out.1 5
  have e6 := Rw.cell HG.out.2.1 0
  simp only [List.getElem?_cons_zero, List.getElem?_cons_succ, stored6] at e0 e1 e2 e3 e4 e5 e6
  clear c0 c1 c2 c3 c4 c5 d0 z0 z1 z2 z3 z4 z5 y0
  refine leaves_cons (f := 22) (args := #[.pointer (some ⟨w.heap.size + 1, 0, none⟩), .pointer (some ⟨w.heap.size + 1 + 1, 0, none⟩)]) (by simp) (by simp [go_sem]) ?_
  refine (catch_idle _ _ _).mono ?_
  rintro e u' w'' ⟨rfl, rfl, rfl⟩
  simp [Leaves, settle, results, Tryd.results9, go_sem, e0, e1, e2, e3, e4, e5, e6]
  exact ⟨rfl, BB⟩

set_option maxRecDepth 100000 in
set_option maxHeartbeats 1000000 in
theorem get_panic (k : Int) (s : ByteArray) (n u : Int) (f : Nat) (b : Bool) (kind : Int) (hk1 : 1 ≤ kind) (hk5 : kind ≤ 5) (w : World)
    (hcon : ∀ w', But [] w w' → Calls Tryd.prog 23 #[vA k s n u f b] w' (Made AccBad kind w')) :
    Calls Tryd.prog 9 #[vA k s n u f b, .int .i64 kind] w (GetOut w zeroA false) := by
  have hmf : ∀ (fn : Fn) (first cap : Array Value) (w : World), (Instr.makeFunc fn first cap).run Tryd.prog w = .ok (.func fn first cap) w := fun _ _ _ _ => rfl
  have HC := Lib.hid hcon
  have hst := start_rows w (.cells #[.int .i64 k, .string s, .int .i64 n, .int .u64 u, .float .f64 f, .bool b] 25)
  have HS := Lib.hid hst
  clear hcon hst
  go_enter_defers Tryd.func9, Tryd.ntmps9
  go_wp2_with fail
  refine (HC.out _ HS.out.1).mono ?_
  rintro e w1 ⟨n0, a, l, c, q, rfl, H1⟩
  have hl : w.heap.size + 1 + 1 < w1.heap.size := by have := H1.out.1.size; have := HS.out.2.1; omega
  go_wp2_with fail
  refine (H1.out.2 _ ((But.refl [] w1).alloc _)).mono ?_
  rintro e w2 ⟨⟨str, rfl⟩, b2⟩
  have ba : But [] w1 w2 := ((But.refl [] w1).alloc _).trans b2.out
  have r0 := Rw.but HS.out.2.2.1 (H1.out.1.trans ba) (by simp)
  have r1 := Rw.but HS.out.2.2.2 (H1.out.1.trans ba) (by simp)
  have hg := zeroed_rows rfl r0 r1 (by omega)
  have BB := Lib.hid (((HS.out.1.trans (H1.out.1.trans ba)).join hg.2.2 (fun _ e => e) (fun x hx hlt => by simp at hx; omega)))
  have e0 := Rw.cell hg.1 0
  have e1 := Rw.cell hg.1 1
  have e2 := Rw.cell hg.1 2
  have e3 := Rw.cell hg.1 3
  have e4 := Rw.cell hg.1 4
  have e5 := Rw.cell hg.1 5
  have e6 := Rw.cell hg.2.1 0
  simp only [zcells, List.getElem?_cons_zero, List.getElem?_cons_succ] at e0 e1 e2 e3 e4 e5 e6
  have R0 := Lib.hid r0
  have R1 := Lib.hid r1
  clear r0 r1 ba b2 hg
  go_wp2
  refine leaves_cons (f := 22) (args := #[.pointer (some ⟨w.heap.size + 1, 0, none⟩), .pointer (some ⟨w.heap.size + 1 + 1, 0, none⟩)]) (by simp) (by simp [go_sem]) ?_
  refine (catch_panic (w.heap.size + 1) (w.heap.size + 1 + 1) _ _ _ _ rfl R0.out R1.out (by omega)).mono ?_
  rintro e u' w'' ⟨rfl, rfl, rfl⟩
  simp [Leaves, settle, results, Tryd.results9, go_sem, e0, e1, e2, e3, e4, e5, e6]
  exact ⟨rfl, BB⟩
end Go.Proofs.YtkibdomfiodilaaDoor.val
