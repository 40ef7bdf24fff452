/-
  Proved: the contracts of the reference's decoder: behind, skip where nothing is to be skipped, Name.
  Conditions: a text of at most 4000 bytes.
-/
import Derived.Test.YtlcbcgillekphaaGreatDoorGd
namespace Go.Proofs.YtlcbcgillekphaaGreatDoor.sd
open Go.RowKit Mem rw
set_option linter.unusedVariables false
set_option linter.unusedSimpArgs false

def noF : Value := .agg #[.bool false, .int .i64 0, .int .i64 0, .bool false]
theorem fltV_form (q : Nat × Nat) : ∃ l k, q.1 = l ∧ q.2 = k ∧ fltV q = .agg #[.bool true, .int .i64 l, .int .i64 k, .bool false] := ⟨_, _, rfl, rfl, rfl⟩
set_option maxHeartbeats 4000000 in
set_option maxRecDepth 100000 in
theorem skip33 (P : Nat) (s : ByteArray) (a p f : Nat) (w : World) (h : SD w P s a p f) (t : Nat) (h0 : p ≠ 0) (h1 : p = 1 → t ≤ 1) (h2 : p = 2 → t ≤ 2) (h3 : p = 3 → t ≤ 3) :
    Calls Tryz.prog 33 #[.pointer (some ⟨P, 0, none⟩), .int .i64 t] w fun e w' => e = .returned (.agg #[.bool false, .int .i64 0, .int .i64 0, .bool false]) ∧ But [] w w' := by
  obtain ⟨c0, c1, c2, c3⟩ := h.cells
  have hPl : P < w.heap.size := Rw.lt h
  clear h
  have g0 : ¬ (p : Int) = 0 := by omega
  have HB : Hid (∀ o, But [] w (w.alloc o)) := Lib.hid fun o => (But.refl [] w).alloc o
  obtain ⟨W, hW⟩ : ∃ W, w.alloc (.cells #[.bool false, .int .i64 0, .int .i64 0, .bool false] 39) = W := ⟨_, rfl⟩
  have hR : Rw W w.heap.size [.bool false, .int .i64 0, .int .i64 0, .bool false] 39 := hW ▸ Rw.new w _ _
  have hbW : But [] w W := hW ▸ (But.refl [] w).alloc _
  obtain ⟨⟨y0, y1, y2, y3⟩, z0, z1, z2, z3⟩ := Rw.four hR
  have hPW : W.cell? ⟨P, 2, none⟩ = some (.int .i64 p) := (hbW.cell (p := ⟨P, 2, none⟩) hPl (by simp)).trans c2
  have hA0 : At W w.heap.size ⟨#[]⟩ 0 0 0 W → True := fun _ => trivial
  clear hA0
  have r3 := Rw.set (Rw.set (Rw.set (Rw.set hR 0 (.bool false)) 1 (.int .i64 0)) 2 (.int .i64 0)) 3 (.bool false)
  obtain ⟨W3, hW3⟩ : ∃ W3, (((W.setCell ⟨w.heap.size, 0, none⟩ (.bool false)).setCell ⟨w.heap.size, 1, none⟩ (.int .i64 0)).setCell ⟨w.heap.size, 2, none⟩ (.int .i64 0)).setCell ⟨w.heap.size, 3, none⟩ (.bool false) = W3 := ⟨_, rfl⟩
  have hb3 : But [] w W3 := hW3 ▸ ((((hbW.setCell (p := ⟨w.heap.size, 0, none⟩) (Or.inr (Nat.le_refl _)) (.bool false)).setCell (p := ⟨w.heap.size, 1, none⟩) (Or.inr (Nat.le_refl _)) (.int .i64 0)).setCell (p := ⟨w.heap.size, 2, none⟩) (Or.inr (Nat.le_refl _)) (.int .i64 0)).setCell (p := ⟨w.heap.size, 3, none⟩) (Or.inr (Nat.le_refl _)) (.bool false))
  have r3 : Rw W3 w.heap.size _ _ := hW3 ▸ r3
  obtain ⟨⟨x0, x1, x2, x3⟩, u0, u1, u2, u3⟩ := Rw.four r3
  have HF := Lib.hid hb3
  have d1 : p = 1 → ¬ (1 : Int) < (t : Int) := fun e => by have := h1 e; omega
  have d2 : p = 2 → ¬ (2 : Int) < (t : Int) := fun e => by have := h2 e; omega
  have d3 : p = 3 → ¬ (3 : Int) < (t : Int) := fun e => by have := h3 e; omega
  have g1 : ((p : Int) = 1 ∧ ¬ (1 : Int) < (t : Int)) ∨ ¬ (p : Int) = 1 := by
    by_cases e : p = 1
    · exact .inl ⟨by omega, d1 e⟩
    · exact .inr (by omega)
  have g2 : ((p : Int) = 2 ∧ ¬ (2 : Int) < (t : Int)) ∨ ¬ (p : Int) = 2 := by
    by_cases e : p = 2
    · exact .inl ⟨by omega, d2 e⟩
    · exact .inr (by omega)
  have g3 : ((p : Int) = 3 ∧ ¬ (3 : Int) < (t : Int)) ∨ ¬ (p : Int) = 3 := by
    by_cases e : p = 3
    · exact .inl ⟨by omega, d3 e⟩
    · exact .inr (by omega)
  clear h0 h1 h2 h3 d1 d2 d3 hR hbW hb3 r3
  rcases g1 with ⟨p1, t1⟩ | p1 <;> rcases g2 with ⟨p2, t2⟩ | p2 <;> rcases g3 with ⟨p3, t3⟩ | p3
  all_goals first
    | (exfalso; omega)
    | (go_enter Tryz.func33, Tryz.ntmps33
       go_wp2_with fail
       go_loopg [] 1 (fun g wr => W = wr)
       case atStart => exact rfl
       case round =>
         obtain rfl := hrel
         go_wp2_with fail
         go_loopg [] 1 (fun g wr => W = wr)
         case atStart => exact rfl
         case round =>
           obtain rfl := hrel
           go_wp2_with fail
           refine bodyPost_ret (v := .agg #[.bool false, .int .i64 0, .int .i64 0, .bool false]) (by simp [results, Tryz.results33, go_sem, x0, x1, x2, x3]) rfl ?_
           exact ⟨rfl, HF.out⟩)
end Go.Proofs.YtlcbcgillekphaaGreatDoor.sd
