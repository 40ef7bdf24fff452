/-
  Proved: the contracts of (pieces).source and left, of stateOf at nil.
  Conditions: pieces in memory.
-/
import Derived.Test.YtbffilfacmdhdaaDoorRf3
import Derived.Stop.Asserts
namespace Go.Proofs.YtbffilfacmdhdaaDoor.dec
open Go.RowKit Mem rw
set_option linter.unusedVariables false
set_option linter.unusedSimpArgs false

theorem source14 (R X : Nat) (w : World) :
    Calls Tryd.prog 14 #[.agg #[.pointer (some ⟨R, 0, none⟩), .iface 82 (.pointer (some ⟨X, 0, none⟩))], .bool false] w fun e w' => e = .returned (.iface 82 (.pointer (some ⟨X, 0, none⟩))) ∧ But [] w w' := by
  go_enter Tryd.func14, Tryd.ntmps14
  go_wp2_with fail
  go_ret
  exact ⟨rfl, (But.refl _ w).alloc _⟩
theorem state11 (w : World) :
    Calls Tryd.prog 11 #[.nilIface] w fun e w' => e = .returned (.int .i64 0) ∧ w = w' := by
  go_enter Tryd.func11, Tryd.ntmps11
  go_wp2_with fail
  go_ret
  exact ⟨rfl, rfl⟩
theorem method_buffered (a : Addr) (w : World) : (method 243 82 (.pointer (some a)) "Buffered").run Tryd.prog w = .ok (54, .pointer (some a)) w := by kernel_rfl
theorem nil_buffered (a : Addr) (w : World) : (nilAhead 243 82 (.pointer (some a)) "Buffered").run Tryd.prog w = .ok (some false) w := by kernel_rfl
theorem method_discard (a : Addr) (w : World) : (method 243 82 (.pointer (some a)) "Discard").run Tryd.prog w = .ok (55, .pointer (some a)) w := by kernel_rfl
theorem nil_discard (a : Addr) (w : World) : (nilAhead 243 82 (.pointer (some a)) "Discard").run Tryd.prog w = .ok (some false) w := by kernel_rfl
set_option maxRecDepth 100000 in
theorem left10 (G : Cfg) (X B : Nat) (w : World) (l : List UInt8) (r : Nat) (left : List UInt8) (at_ : Nat) (lb ls : Int) (h : BX G X B w l r left at_ lb ls) :
    Calls Tryd.prog 10 #[.agg #[.pointer (some ⟨G.R, 0, none⟩), .iface 82 (.pointer (some ⟨X, 0, none⟩))]] w fun e w' => e = .returned (.int .i64 ((l.drop r ++ left).length : Nat)) ∧ But [] w w' := by
  obtain ⟨m, hm⟩ : ∃ m, (l.drop r ++ left).length = m := ⟨_, rfl⟩
  have hml := hm
  rw [List.length_append, List.length_drop] at hml
  have hle := h.buf.le
  have hll := h.ll
  obtain ⟨bs, hbs⟩ : ∃ bs : ByteArray, (⟨left.toArray⟩ : ByteArray) = bs := ⟨_, rfl⟩
  have hbz : bs.size = left.length := by rw [← hbs]; simp [ByteArray.size]
  obtain ⟨W1, hW1⟩ : ∃ W1, w.alloc (.cells #[.pointer (some ⟨G.R, 0, none⟩), .iface 82 (.pointer (some ⟨X, 0, none⟩))] 33) = W1 := ⟨_, rfl⟩
  have r1 := Rw.new w [.pointer (some ⟨G.R, 0, none⟩), .iface 82 (.pointer (some ⟨X, 0, none⟩))] 33
  have b1 := (But.refl [] w).alloc (.cells #[.pointer (some ⟨G.R, 0, none⟩), .iface 82 (.pointer (some ⟨X, 0, none⟩))] 33)
  rw [hW1] at r1 b1
  have k0 : W1.cell? ⟨w.heap.size, 0, none⟩ = some (.pointer (some ⟨G.R, 0, none⟩)) := Rw.cell r1 0
  have k1 : W1.cell? ⟨w.heap.size, 1, none⟩ = some (.iface 82 (.pointer (some ⟨X, 0, none⟩))) := Rw.cell r1 1
  have h1 := h.quiet b1
  have y0 : W1.cell? ⟨G.R, 0, none⟩ = some (.string bs) := by rw [← hbs]; exact Rw.cell h1.rd.row 0
  obtain ⟨d, hd⟩ : ∃ d, l.length - r = d := ⟨_, rfl⟩
  have HB := Lib.hid (buffered54 G X B W1.drew l r left at_ lb ls (h1.quiet (But.refl [] W1).drew))
  rw [hd] at HB
  have hw : IntKind.i64.wrap ((d : Int) + (bs.size : Int)) = (m : Int) := by rw [IntKind.wrap_i64]; omega
  have HBB := Lib.hid b1
  have hmb := method_buffered ⟨X, 0, none⟩
  have hnb := nil_buffered ⟨X, 0, none⟩
  rw [hm]
  clear hm hml hle hll hbs hbz r1 b1 h1 h hd
  go_enter Tryd.func10, Tryd.ntmps10
  go_wp2_with fail
  go_region_held3 (fun wx => wx.cell? ⟨w.heap.size, 1, none⟩ = some (.iface 82 (.pointer (some ⟨X, 0, none⟩))) ∧ wx.cell? ⟨w.heap.size, 0, none⟩ = some (.pointer (some ⟨G.R, 0, none⟩)) ∧ wx.cell? ⟨G.R, 0, none⟩ = some (.string bs)) (first | exact ⟨k1, k0, y0⟩ | exact ⟨d1, d0, d2⟩) (first | (go_at_call 54; (with_reducible refine HB.out.mono ?_); rintro e w2 ⟨rfl, kk, rfl⟩; have hbd : But [] W1 (W1.drew.drewN kk) := ((But.refl [] W1).drew).drewN; have d0 := hbd.cellAt k0 (by simp); have d1 := hbd.cellAt k1 (by simp); have d2 := hbd.cellAt y0 (by simp)))
  all_goals
    clear HB
    go_wp2_with fail
    go_ret
    exact ⟨rfl, HBB.out.trans ((But.refl [] W1).drewN)⟩
/-- What ReadNDiscard leaves. -/
def DnOut (G : Cfg) (X B : Nat) (w : World) (rest : List UInt8) (k : Nat) (e : Ending) (w' : World) : Prop :=
  e = .returned .nilIface ∧ Hid (∃ l r left at_ lb ls, DI G X B w rest w' k l r left at_ lb ls)
set_option maxRecDepth 100000 in
theorem discard13 (G : Cfg) (hG : Base G) (X B : Nat) (w : World) (l : List UInt8) (r : Nat) (left : List UInt8) (at_ : Nat) (lb ls : Int) (h : BX G X B w l r left at_ lb ls)
    (k : Nat) (hkr : k ≤ (l.drop r ++ left).length) (hk4 : k ≤ 100000) (p : Addr) :
    Calls Tryd.prog 13 #[.iface 82 (.pointer (some ⟨X, 0, none⟩)), .int .i64 k, .pointer (some p)] w (DnOut G X B w (l.drop r ++ left) k) := by
  by_cases hk0 : k = 0
  · subst hk0
    have HF : Hid (∃ l' r' left' at' lb' ls', DI G X B w (l.drop r ++ left) w 0 l' r' left' at' lb' ls') := Lib.hid ⟨l, r, left, at_, lb, ls, h, rfl, But.refl _ w⟩
    clear h hG
    go_enter Tryd.func13, Tryd.ntmps13
    go_wp2_with fail
    go_ret
    exact ⟨rfl, HF⟩
  · have hki : ¬ (k : Int) = 0 := by omega
    have HD := Lib.hid (discard55 G hG X B w l r left at_ lb ls h k (by omega) hkr hk4)
    have hta : ∀ w : World, (Instr.typeAssert (.iface 82 (.pointer (some ⟨X, 0, none⟩))) 44 70 true).run Tryd.prog w = .ok (.tuple #[.iface 82 (.pointer (some ⟨X, 0, none⟩)), .bool true]) w := fun w => run_typeAssert_hasB Tryd.underlying70 (by kernel_rfl) _ _ w
    have hmd := method_discard ⟨X, 0, none⟩
    have hnd := nil_discard ⟨X, 0, none⟩
    clear h hG hk0
    go_enter Tryd.func13, Tryd.ntmps13
    go_wp2_with fail
    refine HD.out.mono ?_
    rintro e w2 ⟨rfl, h2⟩
    have H2 := Lib.hid h2.out
    clear h2 HD
    go_wp2_with fail
    go_ret
    exact ⟨rfl, H2⟩
end Go.Proofs.YtbffilfacmdhdaaDoor.dec
