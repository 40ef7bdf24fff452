/-
  Proved: the contract of the decoder's readMore.
  Conditions: a decoder whose text is not all read.
-/
import Derived.Test.YtlcbcgillekphaaGreatDoorGm
import Derived.LaidEql
namespace Go.Proofs.YtlcbcgillekphaaGreatDoor.dec
open Go.RowKit Mem rw
set_option linter.unusedVariables false

/-- A decoder's lay but for what a reading turns. -/
structure Ens (L L' : Lay) : Prop extends Mv L L' 0 where
  line : L'.line = L.line
  esc : L'.esc = L.esc
  E : L'.E = L.E
  ecap : L'.ecap = L.ecap
  lenle : L.len ≤ L'.len
theorem Ens.trans {L L1 L2 : Lay} (a : Ens L L1) (b : Ens L1 L2) : Ens L L2 :=
  ⟨a.toMv.trans b.toMv, b.line.trans a.line, b.esc.trans a.esc, b.E.trans a.E, b.ecap.trans a.ecap, Nat.le_trans a.lenle b.lenle⟩
def More (G : Cfg) (L : Lay) (w : World) (e : Ending) (w' : World) : Prop :=
  e = .returned (.tuple #[]) ∧ Hid (∃ L', DL G L' w' ∧ Go G L w L' w' ∧ Ens L L' ∧ ms G w' < ms G w)
/-- The ten cells of a decoder, one by one. -/
theorem DL.cells {G : Cfg} {L : Lay} {w : World} (h : DL G L w) :
    w.cell? ⟨G.D, 0, none⟩ = some L.rd ∧ w.cell? ⟨G.D, 1, none⟩ = some L.bufv ∧ w.cell? ⟨G.D, 2, none⟩ = some (.int .i64 L.r0) ∧ w.cell? ⟨G.D, 3, none⟩ = some (.int .i64 L.r1) ∧ w.cell? ⟨G.D, 4, none⟩ = some (.bool L.cm) ∧
    w.cell? ⟨G.D, 5, none⟩ = some (.int .u8 L.sec) ∧ w.cell? ⟨G.D, 6, none⟩ = some (.bool L.sk) ∧ w.cell? ⟨G.D, 7, none⟩ = some (.slice (some ⟨L.E, 0, none⟩) L.esc.length L.ecap) ∧ w.cell? ⟨G.D, 8, none⟩ = some (.int .i64 L.line) ∧ w.cell? ⟨G.D, 9, none⟩ = some .nilIface :=
  ⟨Rw.cell h.row 0, Rw.cell h.row 1, Rw.cell h.row 2, Rw.cell h.row 3, Rw.cell h.row 4, Rw.cell h.row 5, Rw.cell h.row 6, Rw.cell h.row 7, Rw.cell h.row 8, Rw.cell h.row 9⟩
theorem bufv_of {L : Lay} (h : L.nb = false) : L.bufv = .slice (some ⟨L.B, 0, none⟩) L.len L.cap := by unfold Lay.bufv; rw [h]; rfl

/-- Behind the reading of m bytes: the decoder with a longer buffer. -/
theorem more_some {G : Cfg} (hG : Base G) {L : Lay} {w w1 : World} {at_ m at' : Nat} (h : DL G L w) (hn : L.nb = false) (hc : L.cm = false) (hr : Rd G w (G.T.drop (L.base + L.len)) at_) (hl : G.T.drop (L.base + L.len) ≠ [])
    (r : Red G w w1 L.B L.cap ((G.T.drop L.base).take L.len) (G.T.drop (L.base + L.len)) at_ m at') (k : Nat) :
    ∃ L', DL G L' ((w1.drewN k).setCell ⟨G.D, 1, none⟩ (.slice (some ⟨L.B, 0, none⟩) (L.len + m) L.cap)) ∧ Go G L w L' ((w1.drewN k).setCell ⟨G.D, 1, none⟩ (.slice (some ⟨L.B, 0, none⟩) (L.len + m) L.cap)) ∧ Ens L L' ∧ ms G ((w1.drewN k).setCell ⟨G.D, 1, none⟩ (.slice (some ⟨L.B, 0, none⟩) (L.len + m) L.cap)) < ms G w := by
  obtain ⟨m1, m2, m3, m4⟩ := h.more hc
  have hcap := m4 hn
  obtain ⟨b1, b2, b3, b4, b5⟩ := h.buf hn
  have hbl := h.blen'
  have hb0 := h.blen
  have hlen := h.lenle hG
  have hroom : ((G.T.drop L.base).take L.len).length < L.cap := by rw [hbl, hcap]; omega
  obtain ⟨q1, q2⟩ := rd_next hG hr r hl hroom
  have hml : m ≤ G.T.length - (L.base + L.len) := by have := r.m1; rw [List.length_drop] at this; omega
  have hdn : But [] w1 (w1.drewN k) := (But.refl _ _).drewN
  have hst : But [G.D] (w1.drewN k) ((w1.drewN k).setCell ⟨G.D, 1, none⟩ (.slice (some ⟨L.B, 0, none⟩) (L.len + m) L.cap)) := (But.refl _ _).setCell (Or.inl (by simp)) _
  have hall : But [G.R, L.B, G.D] w ((w1.drewN k).setCell ⟨G.D, 1, none⟩ (.slice (some ⟨L.B, 0, none⟩) (L.len + m) L.cap)) := ((r.but.mono (by simp)).trans (hdn.mono (by simp))).trans (hst.mono (by simp))
  have hbuf : (G.T.drop L.base).take L.len ++ (G.T.drop (L.base + L.len)).take m = (G.T.drop L.base).take (L.len + m) := by
    rw [← List.drop_drop, List.take_add]
  have hrow : Rw ((w1.drewN k).setCell ⟨G.D, 1, none⟩ (.slice (some ⟨L.B, 0, none⟩) (L.len + m) L.cap)) G.D ({ L with len := L.len + m } : Lay).cells 63 := by
    have h1 : Rw (w1.drewN k) G.D L.cells 63 := Rw.but h.row (r.but.trans (hdn.mono (by simp))) (by simp; exact ⟨fun e => m3 e.symm, b2⟩)
    have h2 := Rw.set h1 1 (.slice (some ⟨L.B, 0, none⟩) (L.len + m) L.cap)
    have e : ({ L with len := L.len + m } : Lay).cells = L.cells.set 1 (.slice (some ⟨L.B, 0, none⟩) (L.len + m) L.cap) := by
      simp [Lay.cells, Lay.bufv, hn]
    rw [e]; exact h2
  have hrd : Rw ((w1.drewN k).setCell ⟨G.D, 1, none⟩ (.slice (some ⟨L.B, 0, none⟩) (L.len + m) L.cap)) G.R _ _ := Rw.but (show Rw (w1.drewN k) G.R _ _ from r.row) hst (by simpa using m3)
  have hB2 := (r.buf.but hdn (by simp)).but hst (by simpa using fun e => b2 e.symm)
  rw [hbuf] at hB2
  have hdrop : (G.T.drop (L.base + L.len)).drop m = G.T.drop (L.base + (L.len + m)) := by rw [List.drop_drop]; congr 1; omega
  refine ⟨{ L with len := L.len + m }, ⟨hrow, fun _ => ⟨hB2, b2, b3, b4, b5⟩, fun e => (by rw [hn] at e; cases e), by show L.base + (L.len + m) ≤ _; omega, h.r01, by show L.r1 ≤ L.len + m; have := h.r1l; omega, h.esc.but hall (by simp; exact ⟨fun e => h.RE e.symm, fun e => b3 e.symm, fun e => h.DE e.symm⟩), h.escl, h.DE, h.RE, h.lo, fun e => (by rw [hc] at e; cases e), fun _ => ⟨m1, ⟨at', ?_, q1.few, ?_⟩, m3, fun _ => hcap⟩, ?_, h.line, Nat.lt_of_lt_of_le h.rlt hall.size⟩, ⟨⟨hall.mono (fun x hx => by rw [mem_own]; simp at hx; rcases hx with e | e | e; exact .inr (.inr (.inl e)); exact .inr (.inr (.inr ⟨hn, e⟩)); exact .inl e), fun _ => ⟨hn, rfl⟩, fun e => (by rw [hn] at e; cases e), .inl rfl⟩, fun _ => ⟨by show L.len ≤ L.len + m; omega, fun j hj => ?_⟩, fun j hj => hall.cell (p := ⟨L.E, j, none⟩) h.esc.lt (by simp; exact ⟨fun e => h.RE e.symm, fun e => b3 e.symm, fun e => h.DE e.symm⟩), fun _ => Nat.le_refl _⟩, ⟨⟨rfl, rfl, rfl, hn, rfl, rfl⟩, rfl, rfl, rfl, rfl, by show L.len ≤ L.len + m; omega⟩, ?_⟩
  · rw [hdrop] at hrd; exact hrd
  · have := q1.le; rw [hdrop] at this; exact this
  · exact h.bel.trans (hall.below G.w0.heap.size h.bel.size (by simp; exact ⟨hG.rlo, b4, hG.dlo⟩))
  · have hx : ((G.T.drop L.base).take (L.len + m))[j]? = some (G.T.getD (L.base + j) 0) := by
      have hlt : L.base + j < G.T.length := by omega
      rw [List.getElem?_take, if_pos (by omega), List.getElem?_drop, List.getD_eq_getElem?_getD, List.getElem?_eq_getElem hlt]; rfl
    exact (hB2.bytes j _ hx).trans (h.byte hn hj).symm
  · rw [ms_of (L := { L with len := L.len + m }) hrow hrd, ms_of h.row hr.row, hc]
    simp only [Bool.false_eq_true, if_false]
    rw [List.length_drop]
    omega

/-- Behind the end of all. -/
theorem more_end {G : Cfg} (hG : Base G) {L : Lay} {w : World} {at_ : Nat} (h : DL G L w) (hn : L.nb = false) (hc : L.cm = false) (hr : Rd G w (G.T.drop (L.base + L.len)) at_) (hl : G.T.drop (L.base + L.len) = []) (k : Nat) :
    ∃ L', DL G L' (((w.drewN k).setCell ⟨G.D, 1, none⟩ (.slice (some ⟨L.B, 0, none⟩) L.len L.cap)).setCell ⟨G.D, 4, none⟩ (.bool true)) ∧ Go G L w L' (((w.drewN k).setCell ⟨G.D, 1, none⟩ (.slice (some ⟨L.B, 0, none⟩) L.len L.cap)).setCell ⟨G.D, 4, none⟩ (.bool true)) ∧ Ens L L' ∧ ms G (((w.drewN k).setCell ⟨G.D, 1, none⟩ (.slice (some ⟨L.B, 0, none⟩) L.len L.cap)).setCell ⟨G.D, 4, none⟩ (.bool true)) < ms G w := by
  obtain ⟨m1, m2, m3, m4⟩ := h.more hc
  obtain ⟨b1, b2, b3, b4, b5⟩ := h.buf hn
  have hend : L.base + L.len = G.T.length := by
    have := congrArg List.length hl
    rw [List.length_drop] at this
    have := h.blen
    simp at *
    omega
  have hall : But [G.D] w (((w.drewN k).setCell ⟨G.D, 1, none⟩ (.slice (some ⟨L.B, 0, none⟩) L.len L.cap)).setCell ⟨G.D, 4, none⟩ (.bool true)) := (((But.refl _ w).drewN).setCell (Or.inl (by simp)) _).setCell (Or.inl (by simp)) _
  have hrow : Rw (((w.drewN k).setCell ⟨G.D, 1, none⟩ (.slice (some ⟨L.B, 0, none⟩) L.len L.cap)).setCell ⟨G.D, 4, none⟩ (.bool true)) G.D ({ L with cm := true } : Lay).cells 63 := by
    have h2 := Rw.set (Rw.set (show Rw (w.drewN k) G.D L.cells _ from h.row) 1 (.slice (some ⟨L.B, 0, none⟩) L.len L.cap)) 4 (.bool true)
    have e : ({ L with cm := true } : Lay).cells = (L.cells.set 1 (.slice (some ⟨L.B, 0, none⟩) L.len L.cap)).set 4 (.bool true) := by
      simp [Lay.cells, Lay.bufv, hn]
    rw [e]; exact h2
  have hrd : Rw (((w.drewN k).setCell ⟨G.D, 1, none⟩ (.slice (some ⟨L.B, 0, none⟩) L.len L.cap)).setCell ⟨G.D, 4, none⟩ (.bool true)) G.R _ _ := Rw.but hr.row hall (by simpa using m3)
  refine ⟨{ L with cm := true }, ⟨hrow, fun _ => ⟨b1.but hall (by simpa using fun e => b2 e.symm), b2, b3, b4, b5⟩, fun e => (by rw [hn] at e; cases e), h.blen, h.r01, h.r1l, h.esc.but hall (by simpa using fun e => h.DE e.symm), h.escl, h.DE, h.RE, h.lo, fun _ => hend, fun e => (by cases e), ?_, h.line, Nat.lt_of_lt_of_le h.rlt hall.size⟩, ⟨⟨hall.mono (fun x hx => by rw [mem_own]; simp at hx; exact .inl hx), fun _ => ⟨hn, rfl⟩, fun e => (by rw [hn] at e; cases e), .inl rfl⟩, fun _ => ⟨Nat.le_refl _, fun j hj => hall.cell (p := ⟨L.B, j, none⟩) b1.lt (by simpa using fun e => b2 e.symm)⟩, fun j hj => hall.cell (p := ⟨L.E, j, none⟩) h.esc.lt (by simpa using fun e => h.DE e.symm), fun _ => Nat.le_refl _⟩, ⟨⟨rfl, rfl, rfl, hn, rfl, rfl⟩, rfl, rfl, rfl, rfl, Nat.le_refl _⟩, ?_⟩
  · exact h.bel.trans (hall.below G.w0.heap.size h.bel.size (by simpa using hG.dlo))
  · rw [ms_of (L := { L with cm := true }) hrow hrd, ms_of h.row hr.row, hc]
    simp

theorem Red.back {G : Cfg} {w0 w w' : World} {B cap : Nat} {l left : List UInt8} {at_ m at' : Nat} (h : Red G w w' B cap l left at_ m at') (hb : But [] w0 w) : Red G w0 w' B cap l left at_ m at' :=
  ⟨h.m1, h.m2, h.buf, h.row, (hb.mono (by simp)).trans h.but, h.all, h.some⟩
theorem Rd.quiet {G : Cfg} {w w' : World} {left : List UInt8} {at_ : Nat} (h : Rd G w left at_) (hb : But [] w w') : Rd G w' left at_ := ⟨Rw.but h.row hb (by simp), h.few, h.le⟩
theorem err_comp : (Tryz.prog.info? 119).map (·.comparable) = some true := by kernel_rfl
theorem err_size : (Tryz.prog.info? 121).map (·.size) = some 1 := by kernel_rfl
theorem neq_same (a : Addr) (w : World) : (binOp .neq 56 (.iface 119 (.pointer (some a))) (.iface 119 (.pointer (some a)))).run Tryz.prog w = .ok (.bool false) w := by
  cases hi : Tryz.prog.info? 119 with
  | none => have := err_comp; simp [hi] at this
  | some i =>
    cases hj : Tryz.prog.info? 121 with
    | none => have := err_size; simp [hj] at this
    | some j =>
      have hc : i.comparable = true := by have := err_comp; simpa [hi] using this
      simp only [binOp]
      simp [Op.equal, Op.maxDepth, run_equalIn_iface_ptr_same w 9998 a Tryz.underlying56 Tryz.underlying119 hi hc hj]
/-- What the first part of readMore leaves: a buffer with room. -/
structure Pre (G : Cfg) (L : Lay) (w : World) (L1 : Lay) (W : World) : Prop where
  dl : DL G L1 W
  nb : L1.nb = false
  cm : L1.cm = false
  go : Go G L w L1 W
  ens : Ens L L1
  ms : ms G W ≤ ms G w
theorem Pre.more {G : Cfg} {L L1 : Lay} {w W w' : World} (hL : DL G L w) (p : Pre G L w L1 W) (h : ∃ L', DL G L' w' ∧ Go G L1 W L' w' ∧ Ens L1 L' ∧ Go.Proofs.YtlcbcgillekphaaGreatDoor.dec.ms G w' < Go.Proofs.YtlcbcgillekphaaGreatDoor.dec.ms G W) :
    ∃ L', DL G L' w' ∧ Go G L w L' w' ∧ Ens L L' ∧ Go.Proofs.YtlcbcgillekphaaGreatDoor.dec.ms G w' < Go.Proofs.YtlcbcgillekphaaGreatDoor.dec.ms G w := by
  obtain ⟨L', h1, h2, h3, h4⟩ := h
  exact ⟨L', h1, p.go.trans hL h2, p.ens.trans h3, Nat.lt_of_lt_of_le h4 p.ms⟩

set_option maxRecDepth 100000 in
set_option maxHeartbeats 1000000 in
theorem more_one (G : Cfg) (hG : Base G) (L1 : Lay) (w : World) (hL : DL G L1 w) (hn0 : L1.nb = false) (hc0 : L1.cm = false) (hl : G.T.drop (L1.base + L1.len) ≠ []) :
    Calls Tryz.prog 81 #[.pointer (some ⟨G.D, 0, none⟩)] w (More G L1 w) := by
  have hPRE : Hid (∀ q, Pre G L1 w L1 (w.drewN q)) := Lib.hid fun q => ⟨hL.drewN q, hn0, hc0, Go.drewN G L1 w q, ⟨⟨rfl, rfl, rfl, hn0, rfl, rfl⟩, rfl, rfl, rfl, rfl, Nat.le_refl _⟩, Nat.le_refl _⟩
  obtain ⟨c0, c1, c2, c3, c4, c5, c6, c7, c8, c9⟩ := hL.cells
  rw [bufv_of hn0] at c1
  rw [hc0] at c4
  rw [((hL.more hc0).2.2.2 hn0)] at c1
  have hl1 : (L1.len : Int) ≤ 4000 := by have := hL.lenle hG; omega
  have HL := Lib.hid hL
  clear hL hn0 hc0
  go_enter Tryz.func81, Tryz.ntmps81
  go_wp2
  go_quiet (fail)
  go_wp2
  have hp := hPRE.out nq
  have hL := HL.out
  clear HL hPRE hl1 c0 c1 c2 c3 c4 c5 c6 c7 c8 c9
  obtain ⟨W, hW⟩ : ∃ W, w.drewN nq = W := ⟨_, rfl⟩
  rw [hW] at hp ⊢
  clear hW
  have h := hp.dl
  have hn := hp.nb
  have hc := hp.cm
  obtain ⟨m1, ⟨at_, hr⟩, m3, m4⟩ := h.more hc
  have hcap := m4 hn
  obtain ⟨b1, b2, b3, b4, b5⟩ := h.buf hn
  have hbl := h.blen'
  have hlen := h.lenle hG
  obtain ⟨c0, c1, c2, c3, c4, c5, c6, c7, c8, c9⟩ := h.cells
  rw [bufv_of hn] at c1
  rw [hc] at c4
  rw [m1] at c0
  have z1 := Rw.fz h.row 1
  have z4 := Rw.fz h.row 4
  have hmr := method_read ⟨G.R, 0, none⟩
  have hna := nil_read ⟨G.R, 0, none⟩
  have hl1 : (L1.len : Int) ≤ 4000 := by omega
  have hl2 : (0 : Int) ≤ (L1.len : Int) := by omega
  have hl3 : (L1.len : Int) ≤ 8192 := by omega
  have hl4 : ¬ 8192 = L1.len := by omega
  have H := Lib.hid h
  have HS := Lib.hid (fun w1 m at' r k => more_some hG (w1 := w1) (m := m) (at' := at') h hn hc hr hl r k)
  have HRD := Lib.hid (fun w' (hb : But [] W w') => read_any G hG L1.B L1.cap ((G.T.drop L1.base).take L1.len) (G.T.drop (L1.base + L1.len)) at_ w' (by rw [List.length_drop]; have := hG.tlen; omega) (by omega) b5 hl (hr.quiet hb) (h.bel.trans (hb.toBelow.mono h.bel.size)) (b1.but hb (by simp)))
  rw [hbl] at HRD
  rw [hcap] at c1 HRD HS
  clear h hr m4 hcap b1 hbl m1
  have hq1 : But [] W W.drew := (But.refl [] W).drew
  have HR2 := Lib.hid (HRD.out _ hq1)
  go_region_held3 (fun wx => wx.cell? ⟨G.D, 0, none⟩ = some (.iface 53 (.pointer (some ⟨G.R, 0, none⟩))) ∧ wx.cell? ⟨G.D, 1, none⟩ = some (.slice (some ⟨L1.B, 0, none⟩) L1.len 8192)) (first | exact ⟨c0, c1⟩ | exact ⟨d0, d1⟩) (first | (go_at_call 127; (with_reducible refine HR2.out.mono ?_); rintro e w1 ⟨m, at', rfl, hred⟩; have d0 : w1.cell? ⟨G.D, 0, none⟩ = some (.iface 53 (.pointer (some ⟨G.R, 0, none⟩))) := hred.out.but.cellAt c0 (by simp; exact ⟨fun e => m3 e.symm, b2⟩); have d1 : w1.cell? ⟨G.D, 1, none⟩ = some (.slice (some ⟨L1.B, 0, none⟩) L1.len 8192) := hred.out.but.cellAt c1 (by simp; exact ⟨fun e => m3 e.symm, b2⟩)))
  have HRED := Lib.hid hred
  clear hred HR2 hq1 HRD c0 c1 c2 c3 c4 c5 c6 c7 c8 c9 hmr hna z1 z4
  have hmb : (L1.len : Int) + (m : Int) ≤ 8192 := by have := HRED.out.m2; rw [H.out.blen'] at this; omega
  have hm0 : (0 : Int) ≤ (m : Int) := by omega
  have y1 : w1.frozen? ⟨G.D, 1, none⟩ = false := (HRED.out.but.frozen (p := ⟨G.D, 1, none⟩) (Rw.lt H.out.row) (by simp; exact ⟨fun e => m3 e.symm, b2⟩)).trans (Rw.fz H.out.row 1)
  obtain ⟨sm, hsm⟩ : ∃ sm, L1.len + m = sm := ⟨_, rfl⟩
  have hw : IntKind.i64.wrap ((L1.len : Int) + (m : Int)) = (sm : Int) := by rw [IntKind.wrap_i64]; omega
  have hs1 : (sm : Int) ≤ 8192 := by omega
  have hs0 : (0 : Int) ≤ (sm : Int) := by omega
  have HFIN := Lib.hid (hp.more hL (HS.out w1 m at' (HRED.out.back (But.refl [] W).drew) 1))
  rw [hsm] at HFIN
  clear hsm
  go_wp2
  refine region_tail 15 (by kernel_rfl) ?_
  simp only [List.take_succ_cons, List.take_zero, List.drop_succ_cons, List.drop_zero]
  repeat still_step
  refine wpStill_nil ?_
  go_wp2
  go_end0
  exact ⟨rfl, HFIN⟩

set_option maxRecDepth 100000 in
set_option maxHeartbeats 1000000 in
theorem more_eof (G : Cfg) (hG : Base G) (L1 : Lay) (w : World) (hL : DL G L1 w) (hn0 : L1.nb = false) (hc0 : L1.cm = false) (hl : G.T.drop (L1.base + L1.len) = []) :
    Calls Tryz.prog 81 #[.pointer (some ⟨G.D, 0, none⟩)] w (More G L1 w) := by
  have hPRE : Hid (∀ q, Pre G L1 w L1 (w.drewN q)) := Lib.hid fun q => ⟨hL.drewN q, hn0, hc0, Go.drewN G L1 w q, ⟨⟨rfl, rfl, rfl, hn0, rfl, rfl⟩, rfl, rfl, rfl, rfl, Nat.le_refl _⟩, Nat.le_refl _⟩
  obtain ⟨c0, c1, c2, c3, c4, c5, c6, c7, c8, c9⟩ := hL.cells
  rw [bufv_of hn0] at c1
  rw [hc0] at c4
  rw [((hL.more hc0).2.2.2 hn0)] at c1
  have hl1 : (L1.len : Int) ≤ 4000 := by have := hL.lenle hG; omega
  have HL := Lib.hid hL
  clear hL hn0 hc0
  go_enter Tryz.func81, Tryz.ntmps81
  go_wp2
  go_quiet (fail)
  go_wp2
  have hp := hPRE.out nq
  have hL := HL.out
  clear HL hPRE hl1 c0 c1 c2 c3 c4 c5 c6 c7 c8 c9
  obtain ⟨W, hW⟩ : ∃ W, w.drewN nq = W := ⟨_, rfl⟩
  rw [hW] at hp ⊢
  clear hW
  have h := hp.dl
  have hn := hp.nb
  have hc := hp.cm
  obtain ⟨m1, ⟨at_, hr⟩, m3, m4⟩ := h.more hc
  have hcap := m4 hn
  obtain ⟨b1, b2, b3, b4, b5⟩ := h.buf hn
  have hbl := h.blen'
  have hlen := h.lenle hG
  obtain ⟨c0, c1, c2, c3, c4, c5, c6, c7, c8, c9⟩ := h.cells
  rw [bufv_of hn] at c1
  rw [hc] at c4
  rw [m1] at c0
  have z1 := Rw.fz h.row 1
  have z4 := Rw.fz h.row 4
  have hmr := method_read ⟨G.R, 0, none⟩
  have hna := nil_read ⟨G.R, 0, none⟩
  have hl1 : (L1.len : Int) ≤ 4000 := by omega
  have hl2 : (0 : Int) ≤ (L1.len : Int) := by omega
  have hl3 : (L1.len : Int) ≤ 8192 := by omega
  have hl4 : ¬ 8192 = L1.len := by omega
  have H := Lib.hid h
  have HFIN := Lib.hid (fun k => hp.more hL (more_end hG h hn hc hr hl k))
  have he : W.cell? ⟨1, 0, none⟩ = some (.iface 119 (.pointer (some G.ev))) := (h.bel.cell (p := ⟨1, 0, none⟩) (block_lt_of_cell hG.eof)).trans hG.eof
  have hne : 1 ≠ G.D ∧ 1 ≠ G.R ∧ 1 ≠ L1.B := by
    have h1 := block_lt_of_cell hG.eof
    have h2 := hG.dlo
    have h3 := hG.rlo
    simp only at h1
    refine ⟨by omega, by omega, by omega⟩
  have hr0 := hr.row
  rw [hl] at hr0
  have HRD := Lib.hid (fun w' (hb : But [] W w') off n c => read_end G L1.B off n c at_ w' (Rw.but hr0 hb (by simp)) _ (hb.cellAt he (by simp)))
  rw [hcap] at c1 HFIN
  have HE := Lib.hid he
  clear h hr hr0 m4 hcap b1 hbl m1 hl
  have hq1 : But [] W W.drew := (But.refl [] W).drew
  have HR2 := Lib.hid (HRD.out _ hq1)
  go_region_held3 (fun wx => wx.cell? ⟨G.D, 0, none⟩ = some (.iface 53 (.pointer (some ⟨G.R, 0, none⟩))) ∧ wx.cell? ⟨G.D, 1, none⟩ = some (.slice (some ⟨L1.B, 0, none⟩) L1.len 8192)) (first | exact ⟨c0, c1⟩) (first | (go_at_call 127; (with_reducible refine (HR2.out _ _ _).mono ?_); rintro e w1 ⟨rfl, qn, rfl⟩))
  clear HR2 hq1 HRD hmr hna
  have hw : IntKind.i64.wrap (L1.len : Int) = (L1.len : Int) := by rw [IntKind.wrap_i64]; omega
  go_wp2
  refine region_tail 15 (by kernel_rfl) ?_
  simp only [List.take_succ_cons, List.take_zero, List.drop_succ_cons, List.drop_zero]
  repeat still_step
  refine wpStill_nil ?_
  have hneq := neq_same G.ev
  go_wp2
  go_end0
  exact ⟨rfl, Lib.hid (HFIN.out _)⟩
end Go.Proofs.YtlcbcgillekphaaGreatDoor.dec
