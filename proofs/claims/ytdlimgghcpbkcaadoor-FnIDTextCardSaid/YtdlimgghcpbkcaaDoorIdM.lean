/-
  Proved: the contract of (*StreamEntryID).MarshalRESP into a bytes.Buffer, and of impl.IDWrite.
  Conditions: numbers of 64 bits; the table of the powers of ten reads as its initialiser lays it.
-/
import Derived.Test.YtdlimgghcpbkcaaDoorIdC
namespace Go.Proofs.YtdlimgghcpbkcaaDoor.ids
open Go.RowKit Mem
set_option linter.unusedVariables false

theorem idText_len (t q : Nat) (ht : t < 18446744073709551616) (hq : q < 18446744073709551616) : 0 < (idText t q).length ∧ (idText t q).length ≤ 1000 := by
  have h1 := dec_len t ht
  have h2 := dec_len q hq
  simp [idText]
  omega
theorem marshal22 (T : TypeId) (R : Nat → Option Value) (Bb b O P A t q : Nat) (ht : t < 18446744073709551616) (hq : q < 18446744073709551616) (w : World) (c0 : w.cell? ⟨A, 0, none⟩ = some (.int .u64 t)) (c1 : w.cell? ⟨A, 1, none⟩ = some (.int .u64 q))
    (hopt : OptsAt w O P) (hbuf : LibA.IsBuffer T R 5 Bb b 0 [] w) (hBb : Bb ≤ w.heap.size) (hP : Bb ≤ P) (hbP : b ≠ P) (hpow : Pow w) (hO : O < w.heap.size) (hPl : P < w.heap.size) :
    Calls Tryd.prog 22 #[.pointer (some ⟨A, 0, none⟩), .iface 64 (.pointer (some ⟨b, 0, none⟩)), .pointer (some ⟨O, 0, none⟩)] w
      fun e w' => e = .returned .nilIface ∧ LibA.IsBuffer T R 5 Bb b 0 (Lib.byteCells (blobText 36 (idText t q))) w' ∧ Below Bb w w' := by
  have HB := Lib.hid (bytes30 A t q ht hq w c0 c1 hpow)
  have HO := Lib.hid hopt
  have HU := Lib.hid hbuf
  have HP := Lib.hid hpow
  clear hopt hbuf hpow c0 c1
  go_enter Tryd.func22, Tryd.ntmps22
  go_wp2_with fail
  refine HB.out.mono ?_
  rintro e w1 ⟨v, rfl, ho, hb⟩
  obtain ⟨hl0, hl1⟩ := idText_len t q ht hq
  obtain ⟨g, cap, rfl, hg, _⟩ := World.ownsRow.form ho hl0
  obtain ⟨_, _, hcap, hsrc⟩ := own_src ho
  have hopt1 : OptsAt w1 O P := ⟨(hb.cell (p := ⟨O, 0, none⟩) hO).trans HO.out.get, (hb.cell (p := ⟨O, 1, none⟩) hO).trans HO.out.put, ⟨(hb.block P hPl).trans HO.out.pool.row⟩⟩
  have HC := Lib.hid (blob31 T R Bb b O P g (idText t q).length cap (idText t q) w1 rfl hl1 hl0 (fun j x hx => hsrc j _ (by simp [Lib.byteCells, hx])) hopt1 (HU.out.old hb) (Nat.le_trans hBb hb.size) hP hbP (HP.out.below hb))
  have HB1 := Lib.hid hb
  clear ho hb hsrc hopt1
  go_wp2_with fail
  refine HC.out.mono ?_
  rintro e w2 ⟨rfl, hu, hb2⟩
  have HU2 := Lib.hid hu
  have HB2 := Lib.hid hb2
  clear hu hb2
  go_wp2
  go_ret
  exact ⟨rfl, HU2.out, (HB1.out.mono hBb).trans HB2.out⟩
theorem state16 (w : World) :
    Calls Tryd.prog 16 #[.nilIface] w fun e w' => e = .returned (.int .i64 0) ∧ w = w' := by
  go_enter Tryd.func16, Tryd.ntmps16
  go_wp2
  go_ret
  exact ⟨rfl, rfl⟩
theorem catch21 (p q : Addr) (w : World) :
    CallsD Tryd.prog 21 #[.pointer (some p), .pointer (some q)] .returning w fun e u' w' => e = .returned (.tuple #[]) ∧ u' = .returning ∧ w = w' := by
  refine callsD_of_wpS Tryd.func21 rfl fun c₀ cs hu => ?_
  apply wpS_seq
  apply wpS_region
  simp [wpOpsS, go_sem, recoverD, hu, Tryd.ntmps21, Exit.thenS]
  refine wpS_cond (t := false) (by simp [Act.eval, Array.replicate]) ?_
  simp only [Bool.false_eq_true, if_false]
  refine wpS_of_wp (wp_skip ?_)
  cases c₀
  simp_all [bodyPostS, results, Tryd.results21]

theorem five (w : World) (a b c d e : Obj) : ∃ W, ((((w.alloc a).alloc b).alloc c).alloc d).alloc e = W ∧ But [] w W ∧ W.heap.size = w.heap.size + 5 ∧
    W.heap[w.heap.size + 1]? = some b ∧ W.heap[w.heap.size + 1 + 1]? = some c ∧ W.heap[w.heap.size + 1 + 1 + 1]? = some d ∧ W.heap[w.heap.size + 1 + 1 + 1 + 1]? = some e := by
  have n : ∀ (v : World) (o : Obj) (k : Nat), v.heap.size = k → (v.alloc o).heap[k]? = some o := fun v o k e => e ▸ heap_alloc_new v o
  refine ⟨_, rfl, (((((But.refl [] w).alloc _).alloc _).alloc _).alloc _).alloc _, by simp, ?_, ?_, ?_, ?_⟩
  · exact ((((But.refl [] _).alloc _).alloc _).alloc _).heapAt (n (w.alloc a) b _ (by simp)) (by simp)
  · exact (((But.refl [] _).alloc _).alloc _).heapAt (n ((w.alloc a).alloc b) c _ (by simp)) (by simp)
  · exact ((But.refl [] _).alloc _).heapAt (n (((w.alloc a).alloc b).alloc c) d _ (by simp)) (by simp)
  · exact n ((((w.alloc a).alloc b).alloc c).alloc d) e _ (by simp)
set_option maxHeartbeats 4000000 in
theorem write9 (t q : Nat) (ht : t < 18446744073709551616) (hq : q < 18446744073709551616) (w : World) (hpow : Pow w) :
    Calls Tryd.prog 9 #[.agg #[.int .u64 t, .int .u64 q]] w fun e w' => e = .returned (.tuple #[.string ⟨(blobText 36 (idText t q)).toArray⟩, .int .i64 0]) ∧ Below w.heap.size w w' := by
  have hmf : ∀ (fn : Fn) (first cap : Array Value) (w : World), (Instr.makeFunc fn first cap).run Tryd.prog w = .ok (.func fn first cap) w := fun _ _ _ _ => rfl
  obtain ⟨W5, hW5, b5, s5, h1, h2, h3, h4⟩ := five w (.cells #[.int .u64 t, .int .u64 q] 31) (.cells #[.string ⟨#[]⟩] 9) (.cells #[.int .i64 0] 3) (.cells #[.slice none 0 0, .int .i64 0, .int .i8 0] 61) (.cells #[.int .u64 t, .int .u64 q] 62)
  have hb : LibA.IsBuffer 61 (fun _ => none) 5 (w.heap.size + 1 + 1 + 1) (w.heap.size + 1 + 1 + 1) 0 [] W5 := LibA.zero_isBuffer (Nat.le_refl _) (LibA.three_whole h3)
  have HP := Lib.hid (hpow.but b5 (fun g _ => by simp))
  have HB := Lib.hid hb
  have H1 := Lib.hid h1
  have H2 := Lib.hid h2
  have H4 := Lib.hid h4
  have B5 := Lib.hid b5
  have S5 := Lib.hid s5
  clear hpow hb h1 h2 h3 h4 b5 s5
  go_enter_defers Tryd.func9, Tryd.ntmps9
  go_wp2_with fail
  have HW := Lib.hid hW5
  clear hW5
  refine (opts23 _).mono ?_
  rintro e w1 ⟨O, P, rfl, hopt, hO, hP, hPO, hb1⟩
  have hOl := block_lt_of_cell hopt.get
  simp only at hOl
  have c0 : w1.cell? ⟨w.heap.size + 1 + 1 + 1 + 1, 0, none⟩ = some (.int .u64 t) := hb1.cellAt (cell_of_row _ _ 0 _ _ _ H4.out) (by simp)
  have c1 : w1.cell? ⟨w.heap.size + 1 + 1 + 1 + 1, 1, none⟩ = some (.int .u64 q) := hb1.cellAt (cell_of_row _ _ 1 _ _ _ H4.out) (by simp)
  have hs5 := S5.out
  have hs1 := hb1.size
  have HM := Lib.hid (marshal22 61 (fun _ => none) (w.heap.size + 1 + 1 + 1) (w.heap.size + 1 + 1 + 1) O P (w.heap.size + 1 + 1 + 1 + 1) t q ht hq w1 c0 c1 hopt (HB.out.old hb1.toBelow) (by omega) (by omega) (by omega) (HP.out.but hb1 (fun g _ => by simp)) hOl (by omega))
  have HB1 := Lib.hid hb1
  clear hopt hb1 c0 c1
  go_wp2_with fail
  refine HM.out.mono ?_
  rintro e w2 ⟨rfl, hu2, hbe2⟩
  have h02 := (hbe2.block (w.heap.size + 1) (by omega)).trans (HB1.out.heapAt H1.out (by simp))
  have h12 := (hbe2.block (w.heap.size + 1 + 1) (by omega)).trans (HB1.out.heapAt H2.out (by simp))
  have HBE := Lib.hid hbe2
  have HU2 := Lib.hid hu2
  have H02 := Lib.hid h02
  have H12 := Lib.hid h12
  clear hbe2 hu2 h02 h12
  go_wp2_with fail
  refine (Tryd.Buffer_String_at 61 _ _ _ _ _ _ HU2.out).mono ?_
  rintro e w3 ⟨rfl, hx⟩
  have hd : But [] w2 w3 := by
    obtain ⟨n, rfl⟩ := hx
    exact (But.refl _ _).drewN
  clear hx
  go_wp2_with fail
  refine (state16 _).mono ?_
  rintro e w4 ⟨rfl, rfl⟩
  have k0 : w3.cell? ⟨w.heap.size + 1, 0, none⟩ = some (.string ⟨#[]⟩) := cell_of_row _ _ 0 _ _ _ (hd.heapAt H02.out (by simp))
  have k1 : w3.cell? ⟨w.heap.size + 1 + 1, 0, none⟩ = some (.int .i64 0) := cell_of_row _ _ 0 _ _ _ (hd.heapAt H12.out (by simp))
  have f0 : w3.frozen? ⟨w.heap.size + 1, 0, none⟩ = false := frozen_of_row _ _ 0 _ _ (hd.heapAt H02.out (by simp))
  have f1 : w3.frozen? ⟨w.heap.size + 1 + 1, 0, none⟩ = false := frozen_of_row _ _ 0 _ _ (hd.heapAt H12.out (by simp))
  have HD := Lib.hid hd
  clear hd
  go_wp2
  refine leaves_cons (f := 21) (args := #[.pointer (some ⟨w.heap.size + 1, 0, none⟩), .pointer (some ⟨w.heap.size + 1 + 1, 0, none⟩)]) (by simp) (by simp [go_sem]) ?_
  refine (catch21 _ _ _).mono ?_
  rintro e u' w'' ⟨rfl, rfl, rfl⟩
  have q0 : (w3.setCell ⟨w.heap.size + 1, 0, none⟩ (.string ⟨(blobText 36 (idText t q)).toArray⟩)).cell? ⟨w.heap.size + 1, 0, none⟩ = some (.string ⟨(blobText 36 (idText t q)).toArray⟩) := World.cell?_setCell_same _ _ _ k0
  have q1 : ((w3.setCell ⟨w.heap.size + 1, 0, none⟩ (.string ⟨(blobText 36 (idText t q)).toArray⟩)).setCell ⟨w.heap.size + 1 + 1, 0, none⟩ (.int .i64 0)).cell? ⟨w.heap.size + 1 + 1, 0, none⟩ = some (.int .i64 0) :=
    World.cell?_setCell_same _ _ _ ((World.cell?_setCell_other _ _ _ _ (by simp)).trans k1)
  simp [Leaves, settle, results, Tryd.results9, go_sem, q0, q1]
  have c2 : Below w.heap.size w w3 := ((B5.out.trans HB1.out).toBelow).trans ((HBE.out.mono (by omega)).trans (HD.out.below _ (by have := HBE.out.size; omega) (fun _ e => by cases e)))
  exact (c2.setCell (by simp) _).setCell (by simp; omega) _
end Go.Proofs.YtdlimgghcpbkcaaDoor.ids
