/-
  Proved: the contract of impl.ScriptTraits.
  Conditions: a script of at most 100000 bytes, at most 20 keys.
-/
import Derived.Test.YtdlimgghcpbkcaaTra
import Derived.Deep.RegionLaw
import Derived.Deep.RegionHeld3
namespace Go.Proofs.Ytdlimgghcpbkcaa.strs
open Go.RowKit Mem
set_option linter.unusedVariables false

theorem catch32 (p q : Addr) (w : World) :
    CallsD Try.prog 32 #[.pointer (some p), .pointer (some q)] .returning w fun e u' w' => e = .returned (.tuple #[]) ∧ u' = .returning ∧ w = w' := by
  refine callsD_of_wpS Try.func32 rfl fun c₀ cs hu => ?_
  apply wpS_seq
  apply wpS_region
  simp [wpOpsS, go_sem, recoverD, hu, Try.ntmps32, Exit.thenS]
  refine wpS_cond (t := false) (by simp [Act.eval, Array.replicate]) ?_
  simp only [Bool.false_eq_true, if_false]
  refine wpS_of_wp (wp_skip ?_)
  cases c₀
  simp_all [bodyPostS, results, Try.results32]

theorem Str.butS {S : List Nat} {w w' : World} {a : Option Addr} {ss : List ByteArray} (h : Str w a ss) (hb : But S w w') (hn : ∀ A off, a = some ⟨A, off, none⟩ → A ∉ S) : Str w' a ss := by
  rcases h.at_ with h0 | ⟨A, off, rfl, hc⟩
  · exact ⟨.inl h0⟩
  · exact ⟨.inr ⟨A, off, rfl, fun j s hs => hb.cellAt (hc j s hs) (hn A off rfl)⟩⟩
theorem step_app {w w' : World} {ops : Array Oper} {o : Oper} {a : Act} {K : Act → World → Prop} {Q : Exit → Act → World → Prop} {E : Prop} (hgd : o.guard = none) (s x : Operand) (t u : TypeId)
    (ho : o.op = .call { callee := .builtin .append, args := #[s, x], argTypes := #[t, u] }) (v y r : Value) (hs : a.eval s = v) (hx : a.eval x = y)
    (hr : (Builtin.append_ #[t, u] o.type #[v, y]).run Try.prog w = .ok r w') (h : K (a.put o.dst r) w') : if Region.wanted o (yielded ops a.tmps) = true then Oper.wp Try.prog o a w K Q else E := by
  have hw : Region.wanted o (yielded ops a.tmps) = true := by simp [Region.wanted, hgd]
  rw [if_pos hw]
  unfold Oper.wp execOp
  simp only [ho, resolve, invoke, builtin, Sem.run_bind, Sem.run_pure, Result.andThen_ok, List.map_toArray, List.map_cons, List.map_nil, hs, hx, hr]
  exact h

set_option maxRecDepth 100000 in
set_option maxHeartbeats 400000 in
theorem traits16 (s : ByteArray) (hsz : s.size ≤ 100000) (a : Option Addr) (c : Nat) (ss : List ByteArray) (w : World) (h : Str w a ss) (hn : ss.length ≤ 50) (hnone : a = none → ss.length = 0) :
    Calls Try.prog 16 #[.string s, .slice a ss.length c] w fun e w' => ∃ a' c', e = .returned (.tuple #[.agg #[.slice a' ss.length c', .bool true, .bool false, .bool true], .bool true]) ∧ Hid (Str w' a' ss ∧ Below w.heap.size w w') := by
  have hmf : ∀ (fn : Fn) (first cap : Array Value) (w : World), (Instr.makeFunc fn first cap).run Try.prog w = .ok (.func fn first cap) w := fun _ _ _ _ => rfl
  obtain ⟨W3, hW3⟩ : ∃ W3, (w.alloc (.cells #[.slice none 0 0, .bool false, .bool false, .bool false] 36)).alloc (.cells #[.bool false] 4) = W3 := ⟨_, rfl⟩
  have b3 : But [] w W3 := hW3 ▸ ((But.refl [] w).alloc _).alloc _
  have s3 : W3.heap.size = w.heap.size + 1 + 1 := by rw [← hW3]; simp
  have h0 : W3.heap[w.heap.size]? = some (.cells #[.slice none 0 0, .bool false, .bool false, .bool false] 36 (0, 0)) := hW3 ▸ ((But.refl [] _).alloc _).heapAt (Go.heap_alloc_new w _) (by simp)
  have h1 : W3.heap[w.heap.size + 1]? = some (.cells #[.bool false] 4 (0, 0)) := by
    have h := Go.heap_alloc_new (w.alloc (.cells #[.slice none 0 0, .bool false, .bool false, .bool false] 36)) (.cells #[.bool false] 4)
    have e : (w.alloc (.cells #[.slice none 0 0, .bool false, .bool false, .bool false] 36)).heap.size = w.heap.size + 1 := by simp
    rw [e] at h
    rw [← hW3]
    exact h
  have st3 : Str (W3.alloc (.cells #[] 9)) a ss := (h.but b3.toBelow).but ((But.refl [] W3).alloc _).toBelow
  obtain ⟨a4, c4, W4, hrun4, hc4, hs4, hb4, hg4⟩ := app_strs (w := W3.alloc (.cells #[] 9)) W3.heap.size (Go.heap_alloc_new W3 _) a c ss st3 hn hnone 29
  have hb34 : Below W3.heap.size W3 W4 := (((But.refl [] W3).alloc _).toBelow).trans (hb4.below W3.heap.size (by rw [sha.heap_alloc_size]; omega) (by simp))
  have HD := Lib.hid (door33 s hsz a4 ss.length c4 W4)
  have H0 := Lib.hid h0
  have H1 := Lib.hid h1
  have B3 := Lib.hid b3
  have S3 := Lib.hid s3
  have B34 := Lib.hid hb34
  have S4 := Lib.hid hs4
  have HR4 := Lib.hid hrun4
  clear h0 h1 b3 s3 st3 hrun4 hs4 hb4 hg4 hb34 h hnone
  go_enter_defers Try.func16, Try.ntmps16
  go_wp2_with (at_builtin; refine app_step rfl (.tmp 9) (.tmp 10) 29 29 rfl _ _ _ rfl rfl HR4.out ?_)
  refine HD.out.mono ?_
  rintro e w5 ⟨rfl, hb5⟩
  have B5 : Hid (Below W3.heap.size W3 w5) := Lib.hid (B34.out.trans (hb5.mono B34.out.size))
  have S5 : Hid (Str w5 a4 ss) := Lib.hid (S4.out.but hb5)
  clear hb5 hW3 HD
  go_wp2
  have hn4 : a4 = none → ss.length = 0 := fun e => by
    rcases S5.out.at_ with h0 | ⟨A, off, e2, _⟩
    · exact h0
    · rw [e] at e2; cases e2
  obtain ⟨W6, hW6⟩ : ∃ W6, w5.alloc (.cells #[.slice a4 ss.length c4, .bool true, .bool false, .bool true] 65) = W6 := ⟨_, rfl⟩
  have b6 : But [] w5 W6 := hW6 ▸ (But.refl [] w5).alloc _
  have r6 : W6.heap[w5.heap.size]? = some (.cells #[.slice a4 ss.length c4, .bool true, .bool false, .bool true] 65 (0, 0)) := hW6 ▸ Go.heap_alloc_new w5 _
  have z6 : W6.heap.size = w5.heap.size + 1 := hW6 ▸ sha.heap_alloc_size _ _
  have st6 : Str (W6.alloc (.cells #[] 9)).drew a4 ss := (S5.out.but b6.toBelow).but ((But.refl [] W6).alloc _).drew.toBelow
  have b7a : But [] W6 (W6.alloc (.cells #[] 9)).drew := ((But.refl [] W6).alloc _).drew
  obtain ⟨a7, c7, V7, hrun7, hc7, hs7, hb7, hg7⟩ := app_strs (w := (W6.alloc (.cells #[] 9)).drew) W6.heap.size (Go.heap_alloc_new W6 _) a4 c4 ss st6 hn hn4 29
  have b7 : Below W6.heap.size W6 V7 := b7a.toBelow.trans (hb7.below W6.heap.size b7a.size (by simp))
  have hS : ∀ W : World, W.heap[w5.heap.size]? = some (.cells #[.slice a4 ss.length c4, .bool true, .bool false, .bool true] 65 (0, 0)) → (fun wx : World => wx.cell? ⟨w5.heap.size, 0, none⟩ = some (.slice a4 ss.length c4) ∧ wx.cell? ⟨w5.heap.size, 1, none⟩ = some (.bool true) ∧ wx.cell? ⟨w5.heap.size, 2, none⟩ = some (.bool false) ∧ wx.cell? ⟨w5.heap.size, 3, none⟩ = some (.bool true)) W := fun W hr => ⟨cell_of_row _ _ 0 _ _ _ hr, cell_of_row _ _ 1 _ _ _ hr, cell_of_row _ _ 2 _ _ _ hr, cell_of_row _ _ 3 _ _ _ hr⟩
  have q6 := hS W6 r6
  have r6a := b7a.heapAt r6 (by simp)
  have q6a := hS _ r6a
  have r7 := sha.Below.at b7 (by omega) r6
  have q7 := hS V7 r7
  have B6 : Hid (Below W3.heap.size W3 W6) := Lib.hid (B5.out.trans (b6.toBelow.mono B5.out.size))
  have B7 : Hid (Below W3.heap.size W3 V7) := Lib.hid (B6.out.trans (b7.mono B6.out.size))
  have k0 := sha.Below.at B7.out (by have := S3.out; omega) H0.out
  have k1 := sha.Below.at B7.out (by have := S3.out; omega) H1.out
  have hlt5 : w.heap.size + 1 < w5.heap.size := by have := S3.out; have := B5.out.size; omega
  have bt8 : But [w.heap.size] V7 ((((V7.setCell ⟨w.heap.size, 0, none⟩ (.slice a7 ss.length c7)).setCell ⟨w.heap.size, 1, none⟩ (.bool true)).setCell ⟨w.heap.size, 2, none⟩ (.bool false)).setCell ⟨w.heap.size, 3, none⟩ (.bool true)) := ((((But.refl _ V7).setCell (Or.inl (by simp)) _).setCell (Or.inl (by simp)) _).setCell (Or.inl (by simp)) _).setCell (Or.inl (by simp)) _
  have q8 := hS ((((V7.setCell ⟨w.heap.size, 0, none⟩ (.slice a7 ss.length c7)).setCell ⟨w.heap.size, 1, none⟩ (.bool true)).setCell ⟨w.heap.size, 2, none⟩ (.bool false)).setCell ⟨w.heap.size, 3, none⟩ (.bool true)) (bt8.heapAt r7 (by simp; omega))
  have bt9 : But [w.heap.size, w.heap.size + 1] V7 (((((V7.setCell ⟨w.heap.size, 0, none⟩ (.slice a7 ss.length c7)).setCell ⟨w.heap.size, 1, none⟩ (.bool true)).setCell ⟨w.heap.size, 2, none⟩ (.bool false)).setCell ⟨w.heap.size, 3, none⟩ (.bool true)).setCell ⟨w.heap.size + 1, 0, none⟩ (.bool true)) := (bt8.mono (fun k hk => by simp at hk ⊢; exact Or.inl hk)).setCell (Or.inl (by simp)) _
  have q9 := hS (((((V7.setCell ⟨w.heap.size, 0, none⟩ (.slice a7 ss.length c7)).setCell ⟨w.heap.size, 1, none⟩ (.bool true)).setCell ⟨w.heap.size, 2, none⟩ (.bool false)).setCell ⟨w.heap.size, 3, none⟩ (.bool true)).setCell ⟨w.heap.size + 1, 0, none⟩ (.bool true)) (bt9.heapAt r7 (by simp; omega))
  have d0 := cell_of_row _ _ 0 _ _ _ k0
  have d1 := cell_of_row _ _ 1 _ _ _ k0
  have d2 := cell_of_row _ _ 2 _ _ _ k0
  have d3 := cell_of_row _ _ 3 _ _ _ k0
  have d4 := cell_of_row _ _ 0 _ _ _ k1
  simp only [List.getElem?_toArray, List.getElem?_cons_zero, List.getElem?_cons_succ] at d0 d1 d2 d3 d4
  have f0 := frozen_of_row _ _ 0 _ _ k0
  have f1 := frozen_of_row _ _ 1 _ _ k0
  have f2 := frozen_of_row _ _ 2 _ _ k0
  have f3 := frozen_of_row _ _ 3 _ _ k0
  have f4 := frozen_of_row _ _ 0 _ _ k1
  have row8 := sha.row_setCell (sha.row_setCell (sha.row_setCell (sha.row_setCell (l := [.slice none 0 0, .bool false, .bool false, .bool false]) k0 0 (.slice a7 ss.length c7)) 1 (.bool true)) 2 (.bool false)) 3 (.bool true)
  have row9 : (((((V7.setCell ⟨w.heap.size, 0, none⟩ (.slice a7 ss.length c7)).setCell ⟨w.heap.size, 1, none⟩ (.bool true)).setCell ⟨w.heap.size, 2, none⟩ (.bool false)).setCell ⟨w.heap.size, 3, none⟩ (.bool true)).setCell ⟨w.heap.size + 1, 0, none⟩ (.bool true)).heap[w.heap.size]? = some (.cells #[.slice a7 ss.length c7, .bool true, .bool false, .bool true] 36 (0, 0)) := ((But.refl [w.heap.size + 1] _).setCell (Or.inl (by simp)) _).heapAt row8 (by simp)
  have c9 : (((((V7.setCell ⟨w.heap.size, 0, none⟩ (.slice a7 ss.length c7)).setCell ⟨w.heap.size, 1, none⟩ (.bool true)).setCell ⟨w.heap.size, 2, none⟩ (.bool false)).setCell ⟨w.heap.size, 3, none⟩ (.bool true)).setCell ⟨w.heap.size + 1, 0, none⟩ (.bool true)).cell? ⟨w.heap.size + 1, 0, none⟩ = some (.bool true) := World.cell?_setCell_same _ _ _ ((World.cell?_setCell_other _ _ _ _ (by simp)).trans ((World.cell?_setCell_other _ _ _ _ (by simp)).trans ((World.cell?_setCell_other _ _ _ _ (by simp)).trans ((World.cell?_setCell_other _ _ _ _ (by simp)).trans d4))))
  have ROW9 := Lib.hid row9
  have C9 := Lib.hid c9
  have S7 := Lib.hid (hs7.but (show Below V7.heap.size V7 V7 from Below.refl _ _))
  have BT9 := Lib.hid bt9
  have HG7 := Lib.hid hg7
  have Q6 := Lib.hid (show (fun wx : World => wx.cell? ⟨w5.heap.size, 0, none⟩ = some (.slice a4 ss.length c4) ∧ wx.cell? ⟨w5.heap.size, 1, none⟩ = some (.bool true) ∧ wx.cell? ⟨w5.heap.size, 2, none⟩ = some (.bool false) ∧ wx.cell? ⟨w5.heap.size, 3, none⟩ = some (.bool true)) W6.drew from q6)
  have Q6A := Lib.hid q6a
  have Q7 := Lib.hid q7
  have Q8 := Lib.hid q8
  have Q9 := Lib.hid q9
  have Z6 := Lib.hid z6
  have HRUN7 := Lib.hid hrun7
  rw [hW6]
  clear hrun7 hW6 b6 r6 z6 st6 b7a hc7 hs7 hb7 hg7 b7 hS q6 r6a q6a r7 q7 k0 k1 bt8 q8 bt9 q9 row8 row9 c9 hn4
  refine wp_region_noPanic ?_
  go_region_held3 (fun wx => wx.cell? ⟨w5.heap.size, 0, none⟩ = some (.slice a4 ss.length c4) ∧ wx.cell? ⟨w5.heap.size, 1, none⟩ = some (.bool true) ∧ wx.cell? ⟨w5.heap.size, 2, none⟩ = some (.bool false) ∧ wx.cell? ⟨w5.heap.size, 3, none⟩ = some (.bool true)) (first | with_reducible exact Q6.out | with_reducible exact hS0 | with_reducible exact Q6A.out | with_reducible exact Q7.out | with_reducible exact Q8.out | with_reducible exact Q9.out) (first | (refine step_app rfl (.tmp 13) (.tmp 15) 29 29 rfl _ _ _ (by rfl) (by rfl) HRUN7.out ?_))
  obtain ⟨V9, hV9⟩ : ∃ V9, (((((V7.setCell ⟨w.heap.size, 0, none⟩ (.slice a7 ss.length c7)).setCell ⟨w.heap.size, 1, none⟩ (.bool true)).setCell ⟨w.heap.size, 2, none⟩ (.bool false)).setCell ⟨w.heap.size, 3, none⟩ (.bool true)).setCell ⟨w.heap.size + 1, 0, none⟩ (.bool true)) = V9 := ⟨_, rfl⟩
  have row9 := ROW9.out
  have c9 := C9.out
  have bt9 := BT9.out
  rw [hV9] at row9 c9 bt9 ⊢
  have e0 := cell_of_row _ _ 0 _ _ _ row9
  have e1 := cell_of_row _ _ 1 _ _ _ row9
  have e2 := cell_of_row _ _ 2 _ _ _ row9
  have e3 := cell_of_row _ _ 3 _ _ _ row9
  simp only [List.getElem?_toArray, List.getElem?_cons_zero, List.getElem?_cons_succ] at e0 e1 e2 e3
  have BT := Lib.hid bt9
  clear hV9 d0 d1 d2 d3 d4 f0 f1 f2 f3 f4 Q6 Q6A Q7 Q8 Q9 ROW9 C9 BT9 row9 bt9 HRUN7 HR4
  refine NoPanic.normal ?_
  go_wp2
  refine leaves_cons (f := 32) (args := #[.pointer (some ⟨w.heap.size, 0, none⟩), .pointer (some ⟨w.heap.size + 1, 0, none⟩)]) (by simp) (by simp [go_sem]) ?_
  refine (catch32 _ _ _).mono ?_
  rintro e u' w'' ⟨rfl, rfl, rfl⟩
  simp [Leaves, settle, results, Try.results16, go_sem, e0, e1, e2, e3, c9]
  refine Lib.hid ⟨?_, ?_⟩
  · exact S7.out.butS BT.out (fun A off e => by have := HG7.out A off e; have := Z6.out; simp; omega)
  · have z1 := B3.out.size
    have z7 := B7.out.size
    have c2 : Below w.heap.size w V7 := B3.out.toBelow.trans (B7.out.mono z1)
    exact c2.trans (BT.out.below w.heap.size c2.size (by simp))
end Go.Proofs.Ytdlimgghcpbkcaa.strs
