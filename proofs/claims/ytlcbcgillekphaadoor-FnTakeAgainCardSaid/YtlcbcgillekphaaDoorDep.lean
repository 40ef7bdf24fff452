/-
  Proved: the contracts of the decoder's at, advance, ensure1, ensure.
  Conditions: a decoder in memory.
-/
import Derived.Test.YtlcbcgillekphaaDoorDeo
namespace Go.Proofs.YtlcbcgillekphaaDoor.dec
open Go.RowKit Mem rw
set_option linter.unusedVariables false

theorem drewN_add (w : World) (a b : Nat) : (w.drewN a).drewN b = w.drewN (a + b) := by simp [World.drewN, Nat.add_assoc]
def AtOut (G : Cfg) (L : Lay) (w : World) (c : UInt8) (e : Ending) (w' : World) : Prop := e = .returned (.int .u8 c.toNat) ∧ ∃ n, w.drewN n = w'
theorem at57 (G : Cfg) (hG : Base G) (L : Lay) (w : World) (h : DL G L w) (hn : L.nb = false) (i : Nat) (hi : i ≤ 10) (hav : L.pos + i < G.T.length → L.r1 + i < L.len) :
    Calls Tryd.prog 57 #[.pointer (some ⟨G.D, 0, none⟩), .int .i64 i] w (AtOut G L w (G.T.getD (L.pos + i) 0)) := by
  obtain ⟨c0, c1, c2, c3, c4, c5, c6, c7, c8, c9⟩ := h.cells
  rw [bufv_of hn] at c1
  have hl := h.lenle hG
  have h1l := h.r1l
  have hbl := h.blen
  have hpos : L.pos = L.base + L.r1 := rfl
  obtain ⟨s, hs⟩ : ∃ s, L.r1 + i = s := ⟨_, rfl⟩
  have hw : IntKind.i64.wrap ((L.r1 : Int) + (i : Int)) = (s : Int) := by rw [IntKind.wrap_i64]; omega
  have hs0 : (0 : Int) ≤ (s : Int) := by omega
  by_cases hlt : s < L.len
  · have hc := h.byte hn hlt
    have hsl : (s : Int) < (L.len : Int) := by omega
    rw [show L.base + s = L.pos + i by omega] at hc
    generalize G.T.getD (L.pos + i) 0 = c at *
    have hcb := c.toNat_lt
    clear h hn hav hpos hs
    go_enter Tryd.func57, Tryd.ntmps57
    go_wp2
    go_quiet (fail)
    go_wp2
    go_quiet (fail)
    go_wp2
    go_ret
    exact ⟨rfl, _, (drewN_add _ _ _).symm⟩
  · have hge : G.T.length ≤ L.pos + i := by
      rcases Nat.lt_or_ge (L.pos + i) G.T.length with e | e
      · have := hav e; omega
      · exact e
    have hz : G.T.getD (L.pos + i) 0 = 0 := by rw [List.getD_eq_getElem?_getD, List.getElem?_eq_none hge]; rfl
    rw [hz]
    have hsl : ¬ (s : Int) < (L.len : Int) := by omega
    clear h hn hav hpos hs hz hge
    go_enter Tryd.func57, Tryd.ntmps57
    go_wp2
    go_quiet (fail)
    go_wp2
    go_ret
    exact ⟨rfl, _, rfl⟩
theorem at0 (G : Cfg) (hG : Base G) (L : Lay) (w : World) (h : DL G L w) (ha : Av G L 1) :
    Calls Tryd.prog 57 #[.pointer (some ⟨G.D, 0, none⟩), .int .i64 0] w (AtOut G L w (G.T.getD L.pos 0)) := by
  have := at57 G hG L w h ha.1 0 (by omega) (fun e => by have := ha.2; have hp : L.pos = L.base + L.r1 := rfl; omega)
  simpa using this
theorem at1 (G : Cfg) (hG : Base G) (L : Lay) (w : World) (h : DL G L w) (ha : Av G L 2) :
    Calls Tryd.prog 57 #[.pointer (some ⟨G.D, 0, none⟩), .int .i64 1] w (AtOut G L w (G.T.getD (L.pos + 1) 0)) := by
  have := at57 G hG L w h ha.1 1 (by omega) (fun e => by have := ha.2; have hp : L.pos = L.base + L.r1 := rfl; omega)
  simpa using this

/-- A decoder that stands n bytes further. -/
def Lay.fwd (L : Lay) (n : Nat) : Lay := { L with r1 := L.r1 + n }
theorem adv59 (G : Cfg) (hG : Base G) (L : Lay) (w : World) (h : DL G L w) (hn : L.nb = false) (n : Nat) (hle : L.r1 + n ≤ L.len) :
    Calls Tryd.prog 59 #[.pointer (some ⟨G.D, 0, none⟩), .int .i64 n] w fun e w' => e = .returned (.tuple #[]) ∧ Hid (DL G (L.fwd n) w' ∧ Go G L w (L.fwd n) w') := by
  obtain ⟨c0, c1, c2, c3, c4, c5, c6, c7, c8, c9⟩ := h.cells
  have hl := h.lenle hG
  have h1l := h.r1l
  have z3 := Rw.fz h.row 3
  have hp := h.put (L' := L.fwd n) 3 (.int .i64 ((L.r1 : Int) + (n : Int))) (by
    have e : ((L.r1 + n : Nat) : Int) = (L.r1 : Int) + (n : Int) := by omega
    unfold Lay.cells
    simp only [Lay.fwd, e]
    rfl) ⟨rfl, rfl, rfl, rfl, rfl, rfl, rfl, rfl, rfl, rfl⟩ (fun e => (by rw [show (L.fwd n).nb = L.nb from rfl, hn] at e; cases e)) (by have := h.r01; show L.r0 ≤ L.r1 + n; omega) hle h.line hG
  have HP := Lib.hid hp
  have hb1 : (L.r1 : Int) + (n : Int) ≤ 4000 := by omega
  have hb0 : (0 : Int) ≤ (L.r1 : Int) := by omega
  have hb2 : (0 : Int) ≤ (n : Int) := by omega
  clear hp h hle hn
  go_enter Tryd.func59, Tryd.ntmps59
  go_wp2
  go_end0
  exact ⟨rfl, Lib.hid HP.out⟩
theorem Lay.fwd_mv (L : Lay) (n : Nat) (hn : L.nb = false) : Mv L (L.fwd n) n := ⟨rfl, rfl, rfl, hn, rfl, rfl⟩
theorem Av.fwd {G : Cfg} {L : Lay} {k : Nat} (h : Av G L k) (n : Nat) (hn : L.r1 + n ≤ L.len) : Av G (L.fwd n) (k - n) := ⟨h.1, by
  have := h.2
  unfold Lay.pos at *
  show min (L.base + (L.r1 + n) + (k - n)) G.T.length ≤ L.base + L.len
  omega⟩
theorem adv1 (G : Cfg) (hG : Base G) (L : Lay) (w : World) (h : DL G L w) (ha : Av G L 1) (hlt : L.pos < G.T.length) :
    Calls Tryd.prog 59 #[.pointer (some ⟨G.D, 0, none⟩), .int .i64 1] w fun e w' => e = .returned (.tuple #[]) ∧ Hid (DL G (L.fwd 1) w' ∧ Go G L w (L.fwd 1) w') := by
  have := adv59 G hG L w h ha.1 1 (by have := ha.2; have hp : L.pos = L.base + L.r1 := rfl; omega)
  simpa using this
theorem adv2 (G : Cfg) (hG : Base G) (L : Lay) (w : World) (h : DL G L w) (ha : Av G L 2) (hlt : L.pos + 1 < G.T.length) :
    Calls Tryd.prog 59 #[.pointer (some ⟨G.D, 0, none⟩), .int .i64 2] w fun e w' => e = .returned (.tuple #[]) ∧ Hid (DL G (L.fwd 2) w' ∧ Go G L w (L.fwd 2) w') := by
  have := adv59 G hG L w h ha.1 2 (by have := ha.2; have hp : L.pos = L.base + L.r1 := rfl; omega)
  simpa using this

/-- What ensure leaves. -/
def EnsOut (G : Cfg) (L : Lay) (w : World) (n : Nat) (e : Ending) (w' : World) : Prop :=
  e = .returned (.bool (decide (L.pos + n ≤ G.T.length))) ∧ Hid (∃ L', DL G L' w' ∧ Go G L w L' w' ∧ Ens L L' ∧ Av G L' n ∧ (L.pos + n ≤ G.T.length → L'.r1 + n ≤ L'.len) ∧ (¬ L.pos + n ≤ G.T.length → L'.base + L'.len = G.T.length))
set_option maxRecDepth 100000 in
theorem ensure1 (G : Cfg) (hG : Base G) (L : Lay) (w : World) (h : DL G L w) (n : Nat) (hn : n ≤ 5000) (hno : L.len < L.r1 + n) :
    Calls Tryd.prog 60 #[.pointer (some ⟨G.D, 0, none⟩), .int .i64 n] w (EnsOut G L w n) := by
  have HL := Lib.hid h
  obtain ⟨r, hr⟩ : ∃ r, decide (L.pos + n ≤ G.T.length) = r := ⟨_, rfl⟩
  have HR := Lib.hid hr
  have hpos : L.pos = L.base + L.r1 := rfl
  have HPOS := Lib.hid hpos
  have hb := h.blen
  have h1l := h.r1l
  clear h hr hpos
  go_enter Tryd.func60, Tryd.ntmps60
  go_wp2_with fail
  go_loopw [5] (fun _ wr => ∃ L1, Hid (DL G L1 wr ∧ Go G L w L1 wr ∧ (L1 = L ∨ Ens L L1) ∧ L1.len < L1.r1 + n)) (fun _ wr => ms G wr)
  case atStart => exact ⟨L, Lib.hid ⟨HL.out, Go.refl _ _ _, .inl rfl, hno⟩⟩
  case round =>
    obtain ⟨L1, hI⟩ := hrel
    obtain ⟨i1, i2, i3, i4⟩ := hI.out
    obtain ⟨c0, c1, c2, c3, c4, c5, c6, c7, c8, c9⟩ := i1.cells
    have hsame : L1.base = L.base ∧ L1.r1 = L.r1 := by
      rcases i3 with e | e
      · subst e; exact ⟨rfl, rfl⟩
      · exact ⟨e.base, by have := e.r1; omega⟩
    cases hcm : L1.cm with
    | true =>
      rw [hcm] at c4
      have hall := i1.all hcm
      have hnb : L1.nb = false := by
        cases hb : L1.nb with
        | false => rfl
        | true => have := (i1.nbz hb).2.2.2; rw [hcm] at this; cases this
      have hfin : ∃ L', DL G L' wr ∧ Go G L w L' wr ∧ Ens L L' ∧ Av G L' n ∧ (L.pos + n ≤ G.T.length → L'.r1 + n ≤ L'.len) ∧ (¬ L.pos + n ≤ G.T.length → L'.base + L'.len = G.T.length) := by
        refine ⟨L1, i1, i2, ?_, ⟨hnb, ?_⟩, ?_, fun _ => hall⟩
        · rcases i3 with e | e
          · subst e; exact ⟨⟨rfl, rfl, rfl, hnb, rfl, rfl⟩, rfl, rfl, rfl, rfl, Nat.le_refl _⟩
          · exact e
        · omega
        · intro e; have := HPOS.out; omega
      have HF := Lib.hid hfin
      have hrf : r = false := by rw [← HR.out]; have := HPOS.out; simp; omega
      have HRF := Lib.hid hrf
      clear hfin i1 i2 i3 i4 hcm hall hnb hrf hsame
      go_wp2
      go_ret
      exact ⟨by rw [HR.out, HRF.out]; rfl, HF⟩
    | false =>
      rw [hcm] at c4
      have HM := Lib.hid (more G hG L1 wr i1 hcm)
      have I3 := Lib.hid i3
      have I2 := Lib.hid i2
      have HS := Lib.hid hsame
      clear i1 i2 i3 i4 hcm hsame c0 c1 c2 c3 c5 c6 c7 c8 c9
      go_wp2_with fail
      refine HM.out.mono ?_
      rintro e w2 ⟨rfl, hm⟩
      obtain ⟨L2, d1, d2, d3, d4⟩ := hm.out
      have hE : Ens L L2 := by
        rcases I3.out with e | e
        · subst e; exact d3
        · exact e.trans d3
      have hG2 : Go G L w L2 w2 := I2.out.trans HL.out d2
      have hs2 : L2.base = L.base ∧ L2.r1 = L.r1 := ⟨hE.base, by have := hE.r1; omega⟩
      obtain ⟨e0, e1, e2, e3, e4, e5, e6, e7, e8, e9⟩ := d1.cells
      rw [bufv_of d3.nb] at e1
      have hl := d1.lenle hG
      have h2l := d1.r1l
      have hb2 := d1.blen
      obtain ⟨s, hs⟩ : ∃ s, L2.r1 + n = s := ⟨_, rfl⟩
      have hw : IntKind.i64.wrap ((L2.r1 : Int) + (n : Int)) = (s : Int) := by rw [IntKind.wrap_i64]; omega
      have hs0 : (0 : Int) ≤ (s : Int) := by omega
      have HMS := Lib.hid d4
      have HD := Lib.hid (show DL G L2 w2 ∧ Go G L w L2 w2 ∧ Ens L L2 ∧ (L2.base = L.base ∧ L2.r1 = L.r1) ∧ L2.r1 + n = s ∧ L2.base + L2.len ≤ G.T.length from ⟨d1, hG2, hE, hs2, hs, hb2⟩)
      clear d1 d2 d3 d4 hE hG2 hs2 hs hm hb2
      by_cases hlt : s ≤ L2.len
      · have hsl : (s : Int) ≤ (L2.len : Int) := by omega
        go_wp2
        go_quiet (fail)
        have hfin : ∃ L', DL G L' (w2.drewN nq) ∧ Go G L w L' (w2.drewN nq) ∧ Ens L L' ∧ Av G L' n ∧ (L.pos + n ≤ G.T.length → L'.r1 + n ≤ L'.len) ∧ (¬ L.pos + n ≤ G.T.length → L'.base + L'.len = G.T.length) := by
          obtain ⟨d1, d2, d3, d4, d5, d6⟩ := HD.out
          refine ⟨L2, d1.drewN nq, d2.trans HL.out (Go.drewN G L2 w2 nq), d3, ⟨d3.nb, ?_⟩, fun _ => by omega, fun e => ?_⟩
          · have := d3.pos; have := HPOS.out; omega
          · exfalso; have := HPOS.out; omega
        have HF := Lib.hid hfin
        have hrf : r = true := by rw [← HR.out]; have := HPOS.out; obtain ⟨d1, d2, d3, d4, d5, d6⟩ := HD.out; simp; omega
        have HRF := Lib.hid hrf
        clear hfin hrf
        go_wp2
        go_ret
        exact ⟨by rw [HR.out, HRF.out]; rfl, HF⟩
      · have hsl : ¬ (s : Int) ≤ (L2.len : Int) := by omega
        go_wp2
        go_quiet (fail)
        go_wp2
        go_roundw
        case rel =>
          obtain ⟨d1, d2, d3, d4, d5, d6⟩ := HD.out
          exact ⟨L2, Lib.hid ⟨d1.drewN nq, d2.trans HL.out (Go.drewN G L2 w2 nq), .inr d3, by omega⟩⟩
        case measure => exact HMS.out
end Go.Proofs.YtlcbcgillekphaaDoor.dec
