/-
  Proved: the contract of impl.fault at a fault of the decoder.
  Conditions: a fault in memory, the variable of values out of range as its initialiser lays it.
-/
import Derived.Test.YtlcbcgillekphaaGreatDoorDhg
import Derived.Test.YtlcbcgillekphaaGreatDoorGc
namespace Go.Proofs.YtlcbcgillekphaaGreatDoor.dec
open Go.RowKit Mem rw
set_option linter.unusedVariables false
set_option linter.unusedSimpArgs false

/-- The package's error of values out of range lies in old memory. -/
def Ovr (w : World) : Prop := ∃ (b : Addr) (c : Array Value) (t : TypeId), w.cell? ⟨0, 0, none⟩ = some (.iface 119 (.pointer (some b))) ∧ w.heap[b.block]? = some (.cells c t (0, 0))
theorem Ovr.below {w w' : World} {n : Nat} (h : Ovr w) (hb : Below n w w') (hn : w.heap.size ≤ n) : Ovr w' := by
  obtain ⟨b, c, t, h1, h2⟩ := h
  exact ⟨b, c, t, (World.cell?_of_block (hb.block _ (Nat.lt_of_lt_of_le (block_lt_of_cell h1) hn))).trans h1, Below.at hb (Nat.lt_of_lt_of_le (Array.getElem?_eq_some_iff.1 h2).1 hn) h2⟩
theorem eql_far (Y : Nat) (b : Addr) (m1 : ByteArray) (c : Array Value) (t : TypeId) (h : ¬ Y = b.block) (w : World) (hY : Rw w Y [.string m1] 121) (hB : w.heap[b.block]? = some (.cells c t (0, 0))) :
    (binOp .eql 56 (.iface 119 (.pointer (some ⟨Y, 0, none⟩))) (.iface 119 (.pointer (some b)))).run Tryz.prog w = .ok (.bool false) w := by
  cases hi : Tryz.prog.info? 119 with
  | none => have := err_comp; simp [hi] at this
  | some i =>
    cases hj : Tryz.prog.info? 121 with
    | none => have := err_size; simp [hj] at this
    | some j =>
      have hc : i.comparable = true := by have := err_comp; simpa [hi] using this
      have hz : j.size ≠ 0 := by have := err_size; simp [hj] at this; omega
      exact run_eql_iface_ptr_other w Tryz.underlying56 Tryz.underlying119 hi hc hj hz (fun e => h (by rw [← e])) hY hB
set_option maxRecDepth 100000 in
theorem out57 (Y : Nat) (m1 : ByteArray) (w w0 : World) (ho : Ovr w0) (hb : Below w0.heap.size w0 w) (hY : w0.heap.size ≤ Y) (hr : Rw w Y [.string m1] 121) :
    Calls Tryz.prog 57 #[.iface 119 (.pointer (some ⟨Y, 0, none⟩))] w fun e w' => e = .returned (.bool false) ∧ w = w' := by
  obtain ⟨B, c, t, h1, h2⟩ := ho
  have hlt := (Array.getElem?_eq_some_iff.1 h2).1
  have h3 := (World.cell?_of_block (a := ⟨0, 0, none⟩) (hb.block _ (block_lt_of_cell h1))).trans h1
  have hq := eql_far Y B m1 c t (by omega) w hr (Below.at hb hlt h2)
  clear h1 h2 hb hr hlt hY
  go_enter Tryz.func57, Tryz.ntmps57
  go_wp2_with fail
  go_ret
  exact ⟨rfl, rfl⟩
set_option maxRecDepth 100000 in
theorem fault29 (G : Cfg) (L : Lay) (v : Value) (l k : Nat) (w : World) (h : ErrAt G L w v l k) (ho : Ovr G.w0) (hb : Below G.w0.heap.size G.w0 w) :
    Calls Tryz.prog 29 #[v] w fun e w' => e = .returned (.agg #[.bool true, .int .i64 l, .int .i64 k, .bool false]) ∧ But [] w w' := by
  obtain ⟨X, Y, ms, rfl, hX, hXo, hX0, hY0, hY, hYo⟩ := h
  have hXl := Rw.lt hX
  have HO : Hid (∀ W, But [] w W → Calls Tryz.prog 57 #[.iface 119 (.pointer (some ⟨Y, 0, none⟩))] W fun e w' => e = .returned (.bool false) ∧ W = w') := Lib.hid fun W hW => out57 Y ms W G.w0 ho (hb.trans (hW.toBelow.mono hb.size)) hY0 (Rw.but hY hW (by simp))
  have c0 : w.cell? ⟨X, 0, none⟩ = some (.int .i64 l) := Rw.cell hX 0
  have c1 : w.cell? ⟨X, 1, none⟩ = some (.int .i64 k) := Rw.cell hX 1
  have c2 : w.cell? ⟨X, 2, none⟩ = some (.iface 119 (.pointer (some ⟨Y, 0, none⟩))) := Rw.cell hX 2
  have hta : ∀ w : World, (Instr.typeAssert (.iface 106 (.pointer (some ⟨X, 0, none⟩))) 56 106 true).run Tryz.prog w = .ok (.tuple #[.pointer (some ⟨X, 0, none⟩), .bool true]) w := fun w => by kernel_rfl
  clear hX ho hb hY hXo hX0 hY0 hYo
  go_enter Tryz.func29, Tryz.ntmps29
  go_wp2_with fail
  go_region
  go_wp2_with fail
  have hB := (((But.refl [] w).alloc (.cells #[.bool false, .int .i64 0, .int .i64 0, .bool false] 39)).alloc (.cells #[.bool true, .int .i64 l, .int .i64 k, .bool false] 39)).drew
  refine (HO.out _ hB).mono ?_
  rintro e w2 ⟨rfl, rfl⟩
  clear hB
  have HB : Hid (But [] w (((w.alloc (.cells #[.bool true, .int .i64 l, .int .i64 k, .bool false] 39)).alloc (.cells #[.bool true, .int .i64 l, .int .i64 k, .bool false] 39)).drew)) := Lib.hid (((But.refl [] w).alloc _).alloc _).drew
  go_wp2_with fail
  go_returns
  exact ⟨rfl, HB.out⟩
end Go.Proofs.YtlcbcgillekphaaGreatDoor.dec
