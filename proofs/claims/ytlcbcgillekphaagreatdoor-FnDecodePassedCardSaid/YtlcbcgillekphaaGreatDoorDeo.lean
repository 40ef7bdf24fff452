/-
  Proved: the contract of the decoder's readMore where there is no buffer yet; in every state.
  Conditions: a decoder whose text is not all read.
-/
import Derived.Test.YtlcbcgillekphaaGreatDoorDen
namespace Go.Proofs.YtlcbcgillekphaaGreatDoor.dec
open Go.RowKit Mem rw
set_option linter.unusedVariables false

def nilLay (L : Lay) (B : Nat) : Lay := { L with nb := false, B := B, cap := 8192, len := 0, r0 := 0, r1 := 0 }
theorem pre_nil {G : Cfg} (hG : Base G) {L : Lay} {w W : World} (h : DL G L w) (hn : L.nb = true) (hc : L.cm = false) (hr0 : L.r0 = 0)
    (hb : But [G.D] w W) (hrow : Rw W G.D (nilLay L w.heap.size).cells 63) (hB : W.heap[w.heap.size]? = some (.cells (madeCells #[.int .u8 0] 8192) 5 (0, 0))) : Pre G L w (nilLay L w.heap.size) W := by
  obtain ⟨z1, z2, z3, z4⟩ := h.nbz hn
  obtain ⟨m1, ⟨at_, hr⟩, m3, m4⟩ := h.more hc
  have hD := Rw.lt h.row
  have hE := h.esc.lt
  have hR := Rw.lt hr.row
  have hrd := Rw.but hr.row hb (by simpa using m3)
  have hbel := h.bel.size
  refine ⟨⟨hrow, fun _ => ⟨?_, by show G.D ≠ w.heap.size; omega, by show w.heap.size ≠ L.E; omega, hbel, by show G.R ≠ w.heap.size; omega⟩, fun e => (by cases e), by show L.base + 0 ≤ _; omega, Nat.le_refl _, Nat.le_refl _, h.esc.but hb (by simpa using fun e => h.DE e.symm), h.escl, h.DE, h.RE, h.lo, fun e => (by rw [show (nilLay L w.heap.size).cm = L.cm from rfl, hc] at e; cases e), fun _ => ⟨m1, ⟨at_, ?_, ?_, ?_⟩, m3, fun _ => rfl⟩, ?_, h.line, Nat.lt_of_lt_of_le h.rlt hb.size⟩, rfl, hc, ⟨⟨hb.mono (fun x hx => by rw [mem_own]; simp at hx; exact .inl hx), fun e => (by rw [hn] at e; cases e), fun _ _ => Nat.le_refl _, .inl rfl⟩, fun e => (by rw [hn] at e; cases e), fun j hj => hb.cell (p := ⟨L.E, j, none⟩) hE (by simpa using fun e => h.DE e.symm), fun _ => Nat.le_refl _⟩, ⟨⟨rfl, hr0.symm, by show 0 = L.r1 + 0; omega, rfl, rfl, rfl⟩, rfl, rfl, rfl, rfl, by show L.len ≤ 0; omega⟩, ?_⟩
  · show BufAt W w.heap.size ((G.T.drop L.base).take 0) 8192
    rw [List.take_zero]
    refine ⟨fun j x hx => by simp at hx, fun j hj => ?_, fun j hj => frozen_of_row _ _ j _ _ hB, Nat.zero_le _, (Array.getElem?_eq_some_iff.1 hB).1, by omega⟩
    rw [cell_of_row _ _ j _ _ _ hB]
    simp [madeCells, hj]
  · show Rw W G.R [.string ⟨(G.T.drop (L.base + 0)).toArray⟩, _, _, _] _
    rw [z1] at hrd
    exact hrd
  · exact hr.few
  · have := hr.le
    show at_ + (G.T.drop (L.base + 0)).length * _ + _ ≤ _
    rw [z1] at this
    exact this
  · exact h.bel.trans (hb.below G.w0.heap.size hbel (by simpa using hG.dlo))
  · rw [z1] at hr hrd
    rw [ms_of (L := nilLay L w.heap.size) hrow hrd, ms_of h.row hr.row]
    exact Nat.le_refl _

set_option maxRecDepth 100000 in
set_option maxHeartbeats 2000000 in
theorem more_nil (G : Cfg) (hG : Base G) (L : Lay) (w : World) (hL : DL G L w) (hn0 : L.nb = true) (hc0 : L.cm = false) (hl : G.T.drop ((nilLay L w.heap.size).base + (nilLay L w.heap.size).len) ≠ []) :
    Calls Tryz.prog 81 #[.pointer (some ⟨G.D, 0, none⟩)] w (More G L w) := by
  obtain ⟨c0, c1, c2, c3, c4, c5, c6, c7, c8, c9⟩ := hL.cells
  obtain ⟨y1, y2, y3, y4⟩ := hL.nbz hn0
  have hr0 : L.r0 = 0 := by have := hL.r01; omega
  have hbv : L.bufv = .slice none 0 0 := by unfold Lay.bufv; rw [hn0]; rfl
  rw [hbv] at c1
  rw [hc0] at c4
  rw [hr0] at c2
  rw [y2] at c3
  simp only [Int.natCast_zero] at c2 c3
  have z1 := Rw.fz hL.row 1
  have z2 := Rw.fz hL.row 2
  have z3 := Rw.fz hL.row 3
  have hPRE : Hid (∀ W, But [G.D] w W → Rw W G.D (nilLay L w.heap.size).cells 63 → W.heap[w.heap.size]? = some (.cells (madeCells #[.int .u8 0] 8192) 5 (0, 0)) → Pre G L w (nilLay L w.heap.size) W) := Lib.hid fun W h1 h2 h3 => pre_nil hG hL hn0 hc0 hr0 h1 h2 h3
  obtain ⟨mc, hmc⟩ : ∃ mc, madeCells #[.int .u8 0] 8192 = mc := ⟨_, rfl⟩
  have hmk : ∀ w, (Instr.makeSlice 51 (.int .i64 0) (.int .i64 8192)).run Tryz.prog w = .ok (.slice (some ⟨w.heap.size, 0, none⟩) 0 8192) (w.alloc (.cells mc 5)) := fun w => by rw [← hmc]; exact make_row w 0 8192 (by omega) (by omega)
  have hcp : ∀ (w : World) (b : Nat), (Builtin.copy_ #[51, 51] 3 #[.slice (some ⟨b, 0, none⟩) 0 8192, .slice none 0 0]).run Tryz.prog w = .ok (goInt 0) w := fun w b => by
    simp [Builtin.copy_, run_underlying Tryz.underlying51, Builtin.lenOf, Builtin.firstCells]
    rfl
  rw [hmc] at hPRE
  have HROW := Lib.hid hL.row
  have HL := Lib.hid hL
  have hDl := Rw.lt hL.row
  have hce : Hid (L.cells = [L.rd, .slice none 0 0, .int .i64 0, .int .i64 0, .bool false, .int .u8 L.sec, .bool L.sk, .slice (some ⟨L.E, 0, none⟩) L.esc.length L.ecap, .int .i64 L.line, .nilIface]) := Lib.hid (by unfold Lay.cells; rw [hbv, hr0, y2, hc0]; rfl)
  have x1 := fun (n : Nat) (o : Obj) => (((But.refl [] w).drewN (n := n)).alloc o).cellAt c1 (by simp)
  have x2 := fun (n : Nat) (o : Obj) => (((But.refl [] w).drewN (n := n)).alloc o).cellAt c2 (by simp)
  have x3 := fun (n : Nat) (o : Obj) => (((But.refl [] w).drewN (n := n)).alloc o).cellAt c3 (by simp)
  have u1 := fun (n : Nat) (o : Obj) => ((((But.refl [] w).drewN (n := n)).alloc o).frozen (p := ⟨G.D, 1, none⟩) hDl (by simp)).trans z1
  have u2 := fun (n : Nat) (o : Obj) => ((((But.refl [] w).drewN (n := n)).alloc o).frozen (p := ⟨G.D, 2, none⟩) hDl (by simp)).trans z2
  have u3 := fun (n : Nat) (o : Obj) => ((((But.refl [] w).drewN (n := n)).alloc o).frozen (p := ⟨G.D, 3, none⟩) hDl (by simp)).trans z3
  have HP : Hid (∀ n, Pre G L w (nilLay L w.heap.size) (((((w.drewN n).alloc (.cells mc 5)).setCell ⟨G.D, 1, none⟩ (.slice (some ⟨w.heap.size, 0, none⟩) 0 8192)).setCell ⟨G.D, 3, none⟩ (.int .i64 0)).setCell ⟨G.D, 2, none⟩ (.int .i64 0)).drew.drew) := Lib.hid fun n => hPRE.out _
    ((((((But.refl [G.D] w).drewN (n := n)).alloc (.cells mc 5)).setCell (p := ⟨G.D, 1, none⟩) (Or.inl (by simp)) _).setCell (p := ⟨G.D, 3, none⟩) (Or.inl (by simp)) _).setCell (p := ⟨G.D, 2, none⟩) (Or.inl (by simp)) _).drew.drew
    (by
      have hr := Rw.set (Rw.set (Rw.set (Rw.but hL.row (((But.refl [] w).drewN (n := n)).alloc (.cells mc 5)) (by simp)) 1 (.slice (some ⟨w.heap.size, 0, none⟩) 0 8192)) 3 (.int .i64 0)) 2 (.int .i64 0)
      rw [hce.out] at hr
      have e : (nilLay L w.heap.size).cells = [L.rd, .slice (some ⟨w.heap.size, 0, none⟩) 0 8192, .int .i64 0, .int .i64 0, .bool false, .int .u8 L.sec, .bool L.sk, .slice (some ⟨L.E, 0, none⟩) L.esc.length L.ecap, .int .i64 L.line, .nilIface] := by
        have : (nilLay L w.heap.size).cm = false := hc0
        unfold Lay.cells Lay.bufv
        rw [this]
        rfl
      rw [e]
      exact hr)
    (by
      have hne : ¬ w.heap.size = G.D := by omega
      show (((((w.drewN n).alloc (.cells mc 5)).setCell ⟨G.D, 1, none⟩ (.slice (some ⟨w.heap.size, 0, none⟩) 0 8192)).setCell ⟨G.D, 3, none⟩ (.int .i64 0)).setCell ⟨G.D, 2, none⟩ (.int .i64 0)).heap[w.heap.size]? = _
      rw [Below.heap_setCell _ _ _ _ hne, Below.heap_setCell _ _ _ _ hne, Below.heap_setCell _ _ _ _ hne]
      exact heap_alloc_new (w.drewN n) _)
  clear hL hn0 y1 y2 y3 y4 hr0 hbv hmc
  go_enter Tryz.func81, Tryz.ntmps81
  go_wp2
  go_quiet (fail)
  obtain ⟨na, rfl⟩ : ∃ na, na = nq := ⟨_, rfl⟩
  go_wp2
  go_quiet (fail)
  go_wp2
  refine region_tail 10 (by kernel_rfl) ?_
  simp only [List.take_succ_cons, List.take_zero, List.drop_succ_cons, List.drop_zero]
  repeat still_step
  refine wpStill_nil ?_
  go_wp2
  refine region_tail 11 (by kernel_rfl) ?_
  simp only [List.take_succ_cons, List.take_zero, List.drop_succ_cons, List.drop_zero]
  repeat still_step
  refine wpStill_nil ?_
  go_wp2
  have hp := HP.out (na + nq)
  have hL := HL.out
  clear HL HP hPRE HROW hce c0 c1 c2 c3 c4 c5 c6 c7 c8 c9 x1 x2 x3 u1 u2 u3 z1 z2 z3 hmk hcp
  obtain ⟨W, hW⟩ : ∃ W, (((((w.drewN (na + nq)).alloc (.cells mc 5)).setCell ⟨G.D, 1, none⟩ (.slice (some ⟨w.heap.size, 0, none⟩) 0 8192)).setCell ⟨G.D, 3, none⟩ (.int .i64 0)).setCell ⟨G.D, 2, none⟩ (.int .i64 0)).drew.drew = W := ⟨_, rfl⟩
  rw [hW] at hp ⊢
  clear hW hDl hc0
  obtain ⟨L1, hL1⟩ : ∃ L1, nilLay L w.heap.size = L1 := ⟨_, rfl⟩
  rw [hL1] at hp hl
  clear hL1
  have h := hp.dl
  have hn := hp.nb
  have hc := hp.cm
  obtain ⟨m1, ⟨at_, hr⟩, m3, m4⟩ := h.more hc
  have hcap := m4 hn
  obtain ⟨b1, b2, b3, b4, b5⟩ := h.buf hn
  have hbl := h.blen'
  have hlen := h.lenle hG
  obtain ⟨c0, c1, c2, c3, c4, c5, c6, c7, c8, c9⟩ := h.cells
  rw [bufv_of hn] at c1
  rw [hc] at c4
  rw [m1] at c0
  have z1 := Rw.fz h.row 1
  have z4 := Rw.fz h.row 4
  have hmr := method_read ⟨G.R, 0, none⟩
  have hna := nil_read ⟨G.R, 0, none⟩
  have hl1 : (L1.len : Int) ≤ 4000 := by omega
  have hl2 : (0 : Int) ≤ (L1.len : Int) := by omega
  have hl3 : (L1.len : Int) ≤ 8192 := by omega
  have hl4 : ¬ 8192 = L1.len := by omega
  have H := Lib.hid h
  have HS := Lib.hid (fun w1 m at' r k => more_some hG (w1 := w1) (m := m) (at' := at') h hn hc hr hl r k)
  have HRD := Lib.hid (fun w' (hb : But [] W w') => read_any G hG L1.B L1.cap ((G.T.drop L1.base).take L1.len) (G.T.drop (L1.base + L1.len)) at_ w' (by rw [List.length_drop]; have := hG.tlen; omega) (by omega) b5 hl (hr.quiet hb) (h.bel.trans (hb.toBelow.mono h.bel.size)) (b1.but hb (by simp)))
  rw [hbl] at HRD
  rw [hcap] at c1 HRD HS
  clear h hr m4 hcap b1 hbl m1
  have hq1 : But [] W W.drew := (But.refl [] W).drew
  have HR2 := Lib.hid (HRD.out _ hq1)
  go_region_held3 (fun wx => wx.cell? ⟨G.D, 0, none⟩ = some (.iface 53 (.pointer (some ⟨G.R, 0, none⟩))) ∧ wx.cell? ⟨G.D, 1, none⟩ = some (.slice (some ⟨L1.B, 0, none⟩) L1.len 8192)) (first | exact ⟨c0, c1⟩ | exact ⟨d0, d1⟩) (first | (go_at_call 127; (with_reducible refine HR2.out.mono ?_); rintro e w1 ⟨m, at', rfl, hred⟩; have d0 : w1.cell? ⟨G.D, 0, none⟩ = some (.iface 53 (.pointer (some ⟨G.R, 0, none⟩))) := hred.out.but.cellAt c0 (by simp; exact ⟨fun e => m3 e.symm, b2⟩); have d1 : w1.cell? ⟨G.D, 1, none⟩ = some (.slice (some ⟨L1.B, 0, none⟩) L1.len 8192) := hred.out.but.cellAt c1 (by simp; exact ⟨fun e => m3 e.symm, b2⟩)))
  have HRED := Lib.hid hred
  clear hred HR2 hq1 HRD c0 c1 c2 c3 c4 c5 c6 c7 c8 c9 hmr hna z1 z4
  have hmb : (L1.len : Int) + (m : Int) ≤ 8192 := by have := HRED.out.m2; rw [H.out.blen'] at this; omega
  have hm0 : (0 : Int) ≤ (m : Int) := by omega
  have y1 : w1.frozen? ⟨G.D, 1, none⟩ = false := (HRED.out.but.frozen (p := ⟨G.D, 1, none⟩) (Rw.lt H.out.row) (by simp; exact ⟨fun e => m3 e.symm, b2⟩)).trans (Rw.fz H.out.row 1)
  obtain ⟨sm, hsm⟩ : ∃ sm, L1.len + m = sm := ⟨_, rfl⟩
  have hw : IntKind.i64.wrap ((L1.len : Int) + (m : Int)) = (sm : Int) := by rw [IntKind.wrap_i64]; omega
  have hs1 : (sm : Int) ≤ 8192 := by omega
  have hs0 : (0 : Int) ≤ (sm : Int) := by omega
  have HFIN := Lib.hid (hp.more hL (HS.out w1 m at' (HRED.out.back (But.refl [] W).drew) 1))
  rw [hsm] at HFIN
  clear hsm
  go_wp2
  refine region_tail 15 (by kernel_rfl) ?_
  simp only [List.take_succ_cons, List.take_zero, List.drop_succ_cons, List.drop_zero]
  repeat still_step
  refine wpStill_nil ?_
  go_wp2
  go_end0
  exact ⟨rfl, HFIN⟩


set_option maxRecDepth 100000 in
set_option maxHeartbeats 2000000 in
theorem more_nile (G : Cfg) (hG : Base G) (L : Lay) (w : World) (hL : DL G L w) (hn0 : L.nb = true) (hc0 : L.cm = false) (hl : G.T.drop ((nilLay L w.heap.size).base + (nilLay L w.heap.size).len) = []) :
    Calls Tryz.prog 81 #[.pointer (some ⟨G.D, 0, none⟩)] w (More G L w) := by
  obtain ⟨c0, c1, c2, c3, c4, c5, c6, c7, c8, c9⟩ := hL.cells
  obtain ⟨y1, y2, y3, y4⟩ := hL.nbz hn0
  have hr0 : L.r0 = 0 := by have := hL.r01; omega
  have hbv : L.bufv = .slice none 0 0 := by unfold Lay.bufv; rw [hn0]; rfl
  rw [hbv] at c1
  rw [hc0] at c4
  rw [hr0] at c2
  rw [y2] at c3
  simp only [Int.natCast_zero] at c2 c3
  have z1 := Rw.fz hL.row 1
  have z2 := Rw.fz hL.row 2
  have z3 := Rw.fz hL.row 3
  have hPRE : Hid (∀ W, But [G.D] w W → Rw W G.D (nilLay L w.heap.size).cells 63 → W.heap[w.heap.size]? = some (.cells (madeCells #[.int .u8 0] 8192) 5 (0, 0)) → Pre G L w (nilLay L w.heap.size) W) := Lib.hid fun W h1 h2 h3 => pre_nil hG hL hn0 hc0 hr0 h1 h2 h3
  obtain ⟨mc, hmc⟩ : ∃ mc, madeCells #[.int .u8 0] 8192 = mc := ⟨_, rfl⟩
  have hmk : ∀ w, (Instr.makeSlice 51 (.int .i64 0) (.int .i64 8192)).run Tryz.prog w = .ok (.slice (some ⟨w.heap.size, 0, none⟩) 0 8192) (w.alloc (.cells mc 5)) := fun w => by rw [← hmc]; exact make_row w 0 8192 (by omega) (by omega)
  have hcp : ∀ (w : World) (b : Nat), (Builtin.copy_ #[51, 51] 3 #[.slice (some ⟨b, 0, none⟩) 0 8192, .slice none 0 0]).run Tryz.prog w = .ok (goInt 0) w := fun w b => by
    simp [Builtin.copy_, run_underlying Tryz.underlying51, Builtin.lenOf, Builtin.firstCells]
    rfl
  rw [hmc] at hPRE
  have HROW := Lib.hid hL.row
  have HL := Lib.hid hL
  have hDl := Rw.lt hL.row
  have hce : Hid (L.cells = [L.rd, .slice none 0 0, .int .i64 0, .int .i64 0, .bool false, .int .u8 L.sec, .bool L.sk, .slice (some ⟨L.E, 0, none⟩) L.esc.length L.ecap, .int .i64 L.line, .nilIface]) := Lib.hid (by unfold Lay.cells; rw [hbv, hr0, y2, hc0]; rfl)
  have x1 := fun (n : Nat) (o : Obj) => (((But.refl [] w).drewN (n := n)).alloc o).cellAt c1 (by simp)
  have x2 := fun (n : Nat) (o : Obj) => (((But.refl [] w).drewN (n := n)).alloc o).cellAt c2 (by simp)
  have x3 := fun (n : Nat) (o : Obj) => (((But.refl [] w).drewN (n := n)).alloc o).cellAt c3 (by simp)
  have u1 := fun (n : Nat) (o : Obj) => ((((But.refl [] w).drewN (n := n)).alloc o).frozen (p := ⟨G.D, 1, none⟩) hDl (by simp)).trans z1
  have u2 := fun (n : Nat) (o : Obj) => ((((But.refl [] w).drewN (n := n)).alloc o).frozen (p := ⟨G.D, 2, none⟩) hDl (by simp)).trans z2
  have u3 := fun (n : Nat) (o : Obj) => ((((But.refl [] w).drewN (n := n)).alloc o).frozen (p := ⟨G.D, 3, none⟩) hDl (by simp)).trans z3
  have HP : Hid (∀ n, Pre G L w (nilLay L w.heap.size) (((((w.drewN n).alloc (.cells mc 5)).setCell ⟨G.D, 1, none⟩ (.slice (some ⟨w.heap.size, 0, none⟩) 0 8192)).setCell ⟨G.D, 3, none⟩ (.int .i64 0)).setCell ⟨G.D, 2, none⟩ (.int .i64 0)).drew.drew) := Lib.hid fun n => hPRE.out _
    ((((((But.refl [G.D] w).drewN (n := n)).alloc (.cells mc 5)).setCell (p := ⟨G.D, 1, none⟩) (Or.inl (by simp)) _).setCell (p := ⟨G.D, 3, none⟩) (Or.inl (by simp)) _).setCell (p := ⟨G.D, 2, none⟩) (Or.inl (by simp)) _).drew.drew
    (by
      have hr := Rw.set (Rw.set (Rw.set (Rw.but hL.row (((But.refl [] w).drewN (n := n)).alloc (.cells mc 5)) (by simp)) 1 (.slice (some ⟨w.heap.size, 0, none⟩) 0 8192)) 3 (.int .i64 0)) 2 (.int .i64 0)
      rw [hce.out] at hr
      have e : (nilLay L w.heap.size).cells = [L.rd, .slice (some ⟨w.heap.size, 0, none⟩) 0 8192, .int .i64 0, .int .i64 0, .bool false, .int .u8 L.sec, .bool L.sk, .slice (some ⟨L.E, 0, none⟩) L.esc.length L.ecap, .int .i64 L.line, .nilIface] := by
        have : (nilLay L w.heap.size).cm = false := hc0
        unfold Lay.cells Lay.bufv
        rw [this]
        rfl
      rw [e]
      exact hr)
    (by
      have hne : ¬ w.heap.size = G.D := by omega
      show (((((w.drewN n).alloc (.cells mc 5)).setCell ⟨G.D, 1, none⟩ (.slice (some ⟨w.heap.size, 0, none⟩) 0 8192)).setCell ⟨G.D, 3, none⟩ (.int .i64 0)).setCell ⟨G.D, 2, none⟩ (.int .i64 0)).heap[w.heap.size]? = _
      rw [Below.heap_setCell _ _ _ _ hne, Below.heap_setCell _ _ _ _ hne, Below.heap_setCell _ _ _ _ hne]
      exact heap_alloc_new (w.drewN n) _)
  clear hL hn0 y1 y2 y3 y4 hr0 hbv hmc
  go_enter Tryz.func81, Tryz.ntmps81
  go_wp2
  go_quiet (fail)
  obtain ⟨na, rfl⟩ : ∃ na, na = nq := ⟨_, rfl⟩
  go_wp2
  go_quiet (fail)
  go_wp2
  refine region_tail 10 (by kernel_rfl) ?_
  simp only [List.take_succ_cons, List.take_zero, List.drop_succ_cons, List.drop_zero]
  repeat still_step
  refine wpStill_nil ?_
  go_wp2
  refine region_tail 11 (by kernel_rfl) ?_
  simp only [List.take_succ_cons, List.take_zero, List.drop_succ_cons, List.drop_zero]
  repeat still_step
  refine wpStill_nil ?_
  go_wp2
  have hp := HP.out (na + nq)
  have hL := HL.out
  clear HL HP hPRE HROW hce c0 c1 c2 c3 c4 c5 c6 c7 c8 c9 x1 x2 x3 u1 u2 u3 z1 z2 z3 hmk hcp
  obtain ⟨W, hW⟩ : ∃ W, (((((w.drewN (na + nq)).alloc (.cells mc 5)).setCell ⟨G.D, 1, none⟩ (.slice (some ⟨w.heap.size, 0, none⟩) 0 8192)).setCell ⟨G.D, 3, none⟩ (.int .i64 0)).setCell ⟨G.D, 2, none⟩ (.int .i64 0)).drew.drew = W := ⟨_, rfl⟩
  rw [hW] at hp ⊢
  clear hW hDl hc0
  obtain ⟨L1, hL1⟩ : ∃ L1, nilLay L w.heap.size = L1 := ⟨_, rfl⟩
  rw [hL1] at hp hl
  clear hL1
  have h := hp.dl
  have hn := hp.nb
  have hc := hp.cm
  obtain ⟨m1, ⟨at_, hr⟩, m3, m4⟩ := h.more hc
  have hcap := m4 hn
  obtain ⟨b1, b2, b3, b4, b5⟩ := h.buf hn
  have hbl := h.blen'
  have hlen := h.lenle hG
  obtain ⟨c0, c1, c2, c3, c4, c5, c6, c7, c8, c9⟩ := h.cells
  rw [bufv_of hn] at c1
  rw [hc] at c4
  rw [m1] at c0
  have z1 := Rw.fz h.row 1
  have z4 := Rw.fz h.row 4
  have hmr := method_read ⟨G.R, 0, none⟩
  have hna := nil_read ⟨G.R, 0, none⟩
  have hl1 : (L1.len : Int) ≤ 4000 := by omega
  have hl2 : (0 : Int) ≤ (L1.len : Int) := by omega
  have hl3 : (L1.len : Int) ≤ 8192 := by omega
  have hl4 : ¬ 8192 = L1.len := by omega
  have H := Lib.hid h
  have HFIN := Lib.hid (fun k => hp.more hL (more_end hG h hn hc hr hl k))
  have he : W.cell? ⟨1, 0, none⟩ = some (.iface 119 (.pointer (some G.ev))) := (h.bel.cell (p := ⟨1, 0, none⟩) (block_lt_of_cell hG.eof)).trans hG.eof
  have hne : 1 ≠ G.D ∧ 1 ≠ G.R ∧ 1 ≠ L1.B := by
    have h1 := block_lt_of_cell hG.eof
    have h2 := hG.dlo
    have h3 := hG.rlo
    simp only at h1
    refine ⟨by omega, by omega, by omega⟩
  have hr0 := hr.row
  rw [hl] at hr0
  have HRD := Lib.hid (fun w' (hb : But [] W w') off n c => read_end G L1.B off n c at_ w' (Rw.but hr0 hb (by simp)) _ (hb.cellAt he (by simp)))
  rw [hcap] at c1 HFIN
  have HE := Lib.hid he
  clear h hr hr0 m4 hcap b1 hbl m1 hl
  have hq1 : But [] W W.drew := (But.refl [] W).drew
  have HR2 := Lib.hid (HRD.out _ hq1)
  go_region_held3 (fun wx => wx.cell? ⟨G.D, 0, none⟩ = some (.iface 53 (.pointer (some ⟨G.R, 0, none⟩))) ∧ wx.cell? ⟨G.D, 1, none⟩ = some (.slice (some ⟨L1.B, 0, none⟩) L1.len 8192)) (first | exact ⟨c0, c1⟩) (first | (go_at_call 127; (with_reducible refine (HR2.out _ _ _).mono ?_); rintro e w1 ⟨rfl, qn, rfl⟩))
  clear HR2 hq1 HRD hmr hna
  have hw : IntKind.i64.wrap (L1.len : Int) = (L1.len : Int) := by rw [IntKind.wrap_i64]; omega
  go_wp2
  refine region_tail 15 (by kernel_rfl) ?_
  simp only [List.take_succ_cons, List.take_zero, List.drop_succ_cons, List.drop_zero]
  repeat still_step
  refine wpStill_nil ?_
  have hneq := neq_same G.ev
  go_wp2
  go_end0
  exact ⟨rfl, Lib.hid (HFIN.out _)⟩

theorem more (G : Cfg) (hG : Base G) (L : Lay) (w : World) (hL : DL G L w) (hc : L.cm = false) :
    Calls Tryz.prog 81 #[.pointer (some ⟨G.D, 0, none⟩)] w (More G L w) := by
  cases hn : L.nb with
  | false =>
    by_cases hl : G.T.drop (L.base + L.len) = []
    · exact more_eof G hG L w hL hn hc hl
    · exact more_one G hG L w hL hn hc hl
  | true =>
    by_cases hl : G.T.drop ((nilLay L w.heap.size).base + (nilLay L w.heap.size).len) = []
    · exact more_nile G hG L w hL hn hc hl
    · exact more_nil G hG L w hL hn hc hl
end Go.Proofs.YtlcbcgillekphaaGreatDoor.dec
