/-
  Proved: the contract of impl.ValueGet.
  Conditions: kinds from 1 to 5; a number's bits; texts of at most 2147483647 bytes.
-/
import Derived.Test.YtkibdomfiodilaaDoorValG
import Derived.Recover
namespace Go.Proofs.YtkibdomfiodilaaDoor.val
open Go.RowKit Mem rw
set_option linter.unusedVariables false
attribute [local go_sem] store_float

def zcells : List Value := [.int .i64 0, .string ⟨#[]⟩, .int .i64 0, .int .u64 0, .float .f64 0, .bool false]
theorem catch_idle (p q : Addr) (w : World) :
    CallsD Tryd.prog 22 #[.pointer (some p), .pointer (some q)] .returning w fun e u' w' => e = .returned (.tuple #[]) ∧ u' = .returning ∧ w = w' := by
  refine callsD_of_wpS Tryd.func22 rfl fun c₀ cs hu => ?_
  apply wpS_seq
  apply wpS_region
  simp [wpOpsS, go_sem, recoverD, hu, Tryd.ntmps22, Exit.thenS]
  refine wpS_cond (t := false) (by simp [Act.eval, Array.replicate]) ?_
  simp only [Bool.false_eq_true, if_false]
  refine wpS_of_wp (wp_skip ?_)
  cases c₀
  simp_all [bodyPostS, results, Tryd.results22]

/-- The world behind the six stores of a zero value, and of false. -/
def zeroed (w : World) (p q : Nat) : World :=
  (((((((w.setCell ⟨p, 0, none⟩ (.int .i64 0)).setCell ⟨p, 1, none⟩ (.string ⟨#[]⟩)).setCell ⟨p, 2, none⟩ (.int .i64 0)).setCell ⟨p, 3, none⟩ (.int .u64 0)).setCell ⟨p, 4, none⟩ (.float .f64 0)).setCell ⟨p, 5, none⟩ (.bool false)).setCell ⟨q, 0, none⟩ (.bool false))
set_option maxRecDepth 100000 in
theorem catch_panic (p q : Nat) (u : TypeId) (pv : Value) (w : World) (l : List Value) (hl : l.length = 6) (hp : Rw w p l 25) (hq : Rw w q [.bool false] 4) (hpq : p ≠ q) :
    CallsD Tryd.prog 22 #[.pointer (some ⟨p, 0, none⟩), .pointer (some ⟨q, 0, none⟩)] (.panicking [{ v := .iface u pv, recovered := false }]) w fun e u' w' => e = .returned (.tuple #[]) ∧ u' = .panicking [{ v := .iface u pv, recovered := true }] ∧ zeroed w p q = w' := by
  match l, hl with
  | [a0, a1, a2, a3, a4, a5], _ =>
  have c0 := Rw.cell hp 0
  have c1 := Rw.cell hp 1
  have c2 := Rw.cell hp 2
  have c3 := Rw.cell hp 3
  have c4 := Rw.cell hp 4
  have c5 := Rw.cell hp 5
  have d0 := Rw.cell hq 0
  simp only [List.getElem?_cons_zero, List.getElem?_cons_succ] at c0 c1 c2 c3 c4 c5 d0
  have z0 := Rw.fz hp 0
  have z1 := Rw.fz hp 1
  have z2 := Rw.fz hp 2
  have z3 := Rw.fz hp 3
  have z4 := Rw.fz hp 4
  have z5 := Rw.fz hp 5
  have y0 := Rw.fz hq 0
  refine callsD_of_wpS Tryd.func22 rfl fun c₀ cs hu => ?_
  apply wpS_seq
  apply wpS_region
  simp [wpOpsS, go_sem, recoverD, hu, Tryd.ntmps22, Exit.thenS]
  refine wpS_cond (t := true) (by simp [Act.eval, Array.replicate]) ?_
  simp only [if_true]
  apply wpS_region
  simp [wpOpsS, go_sem, c0, c1, c2, c3, c4, c5, d0, z0, z1, z2, z3, z4, z5, y0, bodyPostS, results, Tryd.results22, zeroed]

/-- What a call of impl.value hands back. -/
def ValOut (w : World) (v : Value) (ok : Bool) (e : Ending) (w' : World) : Prop := e = .returned (.tuple #[v, .bool ok]) ∧ Hid (But [] w w')
def GetOut (w : World) (v : Value) (ok : Bool) (e : Ending) (w' : World) : Prop := e = .returned (.tuple #[v, .bool ok]) ∧ Hid (But [] w w')
abbrev zeroA : Value := .agg #[.int .i64 0, .string ⟨#[]⟩, .int .i64 0, .int .u64 0, .float .f64 0, .bool false]
/-- The rows of the results, as the function lays them. -/
theorem start_rows (w : World) (o : Obj) : let W := ((w.alloc o).alloc (.cells zcells.toArray 25)).alloc (.cells #[.bool false] 4)
    But [] w W ∧ W.heap.size = w.heap.size + 1 + 1 + 1 ∧ Rw W (w.heap.size + 1) zcells 25 ∧ Rw W (w.heap.size + 1 + 1) [.bool false] 4 := by
  refine ⟨(((But.refl [] w).alloc _).alloc _).alloc _, by simp, ?_, ?_⟩
  · have h := Rw.new (w.alloc o) zcells 25
    rw [alloc_size] at h
    exact Rw.but h ((But.refl [] _).alloc _) (by simp)
  · have h := Rw.new ((w.alloc o).alloc (.cells zcells.toArray 25)) [.bool false] 4
    rw [alloc_size, alloc_size] at h
    exact h

theorem zeroed_rows {w : World} {p q : Nat} {l : List Value} (hl : l.length = 6) (hp : Rw w p l 25) (hq : Rw w q [.bool false] 4) (hpq : p ≠ q) :
    Rw (zeroed w p q) p zcells 25 ∧ Rw (zeroed w p q) q [.bool false] 4 ∧ But [p, q] w (zeroed w p q) := by
  match l, hl with
  | [a0, a1, a2, a3, a4, a5], _ =>
  have h1 := Rw.set (Rw.set (Rw.set (Rw.set (Rw.set (Rw.set hp 0 (.int .i64 0)) 1 (.string ⟨#[]⟩)) 2 (.int .i64 0)) 3 (.int .u64 0)) 4 (.float .f64 0)) 5 (.bool false)
  have b1 : But [p] w ((((((w.setCell ⟨p, 0, none⟩ (.int .i64 0)).setCell ⟨p, 1, none⟩ (.string ⟨#[]⟩)).setCell ⟨p, 2, none⟩ (.int .i64 0)).setCell ⟨p, 3, none⟩ (.int .u64 0)).setCell ⟨p, 4, none⟩ (.float .f64 0)).setCell ⟨p, 5, none⟩ (.bool false)) :=
    ((((((But.refl [p] w).setCell (Or.inl (by simp)) _).setCell (Or.inl (by simp)) _).setCell (Or.inl (by simp)) _).setCell (Or.inl (by simp)) _).setCell (Or.inl (by simp)) _).setCell (Or.inl (by simp)) _
  refine ⟨Rw.but h1 ((But.refl [q] _).setCell (Or.inl (by simp)) _) (by simpa using hpq), ?_, (b1.mono (by simp)).setCell (Or.inl (by simp)) _⟩
  exact Rw.set (Rw.but hq b1 (by simpa using Ne.symm hpq)) 0 (.bool false)
set_option maxRecDepth 100000 in
set_option maxHeartbeats 400000 in
theorem get_no (k : Int) (s : ByteArray) (n u : Int) (f : Nat) (b : Bool) (kind : Int) (w : World)
    (hcon : ∀ w', But [] w w' → Calls Tryd.prog 23 #[vA k s n u f b] w' (ValOut w' (.agg #[.int .u64 0, .slice none 0 0, .int .u8 0]) false)) :
    Calls Tryd.prog 9 #[vA k s n u f b, .int .i64 kind] w (GetOut w zeroA false) := by
  have hmf : ∀ (fn : Fn) (first cap : Array Value) (w : World), (Instr.makeFunc fn first cap).run Tryd.prog w = .ok (.func fn first cap) w := fun _ _ _ _ => rfl
  have HC := Lib.hid hcon
  have hst := start_rows w (.cells #[.int .i64 k, .string s, .int .i64 n, .int .u64 u, .float .f64 f, .bool b] 25)
  have HS := Lib.hid hst
  clear hcon hst
  go_enter_defers Tryd.func9, Tryd.ntmps9
  go_wp2_with fail
  refine (HC.out _ HS.out.1).mono ?_
  rintro e w1 ⟨rfl, b1⟩
  have r0 := Rw.but HS.out.2.2.1 b1.out (by simp)
  have r1 := Rw.but HS.out.2.2.2 b1.out (by simp)
  have r0' := fun o => Rw.but r0 ((But.refl [] w1).alloc o) (by simp)
  have r1' := fun o => Rw.but r1 ((But.refl [] w1).alloc o) (by simp)
  have c0 := fun o => Rw.cell (r0' o) 0
  have c1 := fun o => Rw.cell (r0' o) 1
  have c2 := fun o => Rw.cell (r0' o) 2
  have c3 := fun o => Rw.cell (r0' o) 3
  have c4 := fun o => Rw.cell (r0' o) 4
  have c5 := fun o => Rw.cell (r0' o) 5
  have d0 := fun o => Rw.cell (r1' o) 0
  simp only [zcells, List.getElem?_cons_zero, List.getElem?_cons_succ] at c0 c1 c2 c3 c4 c5 d0
  have z0 := fun o => Rw.fz (r0' o) 0
  have z1 := fun o => Rw.fz (r0' o) 1
  have z2 := fun o => Rw.fz (r0' o) 2
  have z3 := fun o => Rw.fz (r0' o) 3
  have z4 := fun o => Rw.fz (r0' o) 4
  have z5 := fun o => Rw.fz (r0' o) 5
  have y0 := fun o => Rw.fz (r1' o) 0
  have R0 := Lib.hid r0'
  have R1 := Lib.hid r1'
  have hl := Rw.lt r1
  have BB := Lib.hid (HS.out.1.trans b1.out)
  clear r0 r1 b1 r0' r1'
  go_wp2
  obtain ⟨rp, rq, rb⟩ := zeroed_rows rfl (R0.out (.cells #[.int .u64 0, .slice none 0 0, .int .u8 0] 48)) (R1.out (.cells #[.int .u64 0, .slice none 0 0, .int .u8 0] 48)) (by omega)
  have BF := Lib.hid ((BB.out.alloc (.cells #[.int .u64 0, .slice none 0 0, .int .u8 0] 48)).join rb (fun _ e => e) (fun x hx hlt => by simp at hx; omega))
  have e0 := Rw.cell rp 0
  have e1 := Rw.cell rp 1
  have e2 := Rw.cell rp 2
  have e3 := Rw.cell rp 3
  have e4 := Rw.cell rp 4
  have e5 := Rw.cell rp 5
  have e6 := Rw.cell rq 0
  simp only [zcells, List.getElem?_cons_zero, List.getElem?_cons_succ, zeroed] at e0 e1 e2 e3 e4 e5 e6
  clear rp rq rb c0 c1 c2 c3 c4 c5 d0 z0 z1 z2 z3 z4 z5 y0
  refine leaves_cons (f := 22) (args := #[.pointer (some ⟨w.heap.size + 1, 0, none⟩), .pointer (some ⟨w.heap.size + 1 + 1, 0, none⟩)]) (by simp) (by simp [go_sem]) ?_
  refine (catch_idle _ _ _).mono ?_
  rintro e u' w'' ⟨rfl, rfl, rfl⟩
  simp [Leaves, settle, results, Tryd.results9, go_sem, e0, e1, e2, e3, e4, e5, e6]
  exact ⟨rfl, BF⟩
end Go.Proofs.YtkibdomfiodilaaDoor.val
