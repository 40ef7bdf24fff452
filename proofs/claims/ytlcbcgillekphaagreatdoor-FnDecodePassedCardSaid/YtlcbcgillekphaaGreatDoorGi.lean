/-
  Proved: the contracts of the decoder's at, advance, ensure1, ensure · the contracts of the decoder's ensure and take · the contract of the decoder's take · the contracts of zzCountByte, bytes.LastIndexByte, errors.New, and of the decoder's syntaxErrorf.
  Conditions: each law's own; a text of at most 4000 bytes where one is read.
-/
import Derived.Test.YtlcbcgillekphaaGreatDoorDeo
import Derived.Test.YtlcbcgillekphaaGreatDoorGb
import Derived.Deep.LoopGhost
namespace Go.Proofs.YtlcbcgillekphaaGreatDoor.dec
open Go.RowKit Mem rw
set_option linter.unusedVariables false

theorem drewN_add (w : World) (a b : Nat) : (w.drewN a).drewN b = w.drewN (a + b) := by simp [World.drewN, Nat.add_assoc]
def AtOut (G : Cfg) (L : Lay) (w : World) (c : UInt8) (e : Ending) (w' : World) : Prop := e = .returned (.int .u8 c.toNat) ∧ ∃ n, w.drewN n = w'
theorem at57 (G : Cfg) (hG : Base G) (L : Lay) (w : World) (h : DL G L w) (hn : L.nb = false) (i : Nat) (hi : i ≤ 10) (hav : L.pos + i < G.T.length → L.r1 + i < L.len) :
    Calls Tryz.prog 45 #[.pointer (some ⟨G.D, 0, none⟩), .int .i64 i] w (AtOut G L w (G.T.getD (L.pos + i) 0)) := by
  obtain ⟨c0, c1, c2, c3, c4, c5, c6, c7, c8, c9⟩ := h.cells
  rw [bufv_of hn] at c1
  have hl := h.lenle hG
  have h1l := h.r1l
  have hbl := h.blen
  have hpos : L.pos = L.base + L.r1 := rfl
  obtain ⟨s, hs⟩ : ∃ s, L.r1 + i = s := ⟨_, rfl⟩
  have hw : IntKind.i64.wrap ((L.r1 : Int) + (i : Int)) = (s : Int) := by rw [IntKind.wrap_i64]; omega
  have hs0 : (0 : Int) ≤ (s : Int) := by omega
  by_cases hlt : s < L.len
  · have hc := h.byte hn hlt
    have hsl : (s : Int) < (L.len : Int) := by omega
    rw [show L.base + s = L.pos + i by omega] at hc
    generalize G.T.getD (L.pos + i) 0 = c at *
    have hcb := c.toNat_lt
    clear h hn hav hpos hs
    go_enter Tryz.func45, Tryz.ntmps45
    go_wp2
    go_quiet (fail)
    go_wp2
    go_quiet (fail)
    go_wp2
    go_ret
    exact ⟨rfl, _, (drewN_add _ _ _).symm⟩
  · have hge : G.T.length ≤ L.pos + i := by
      rcases Nat.lt_or_ge (L.pos + i) G.T.length with e | e
      · have := hav e; omega
      · exact e
    have hz : G.T.getD (L.pos + i) 0 = 0 := by rw [List.getD_eq_getElem?_getD, List.getElem?_eq_none hge]; rfl
    rw [hz]
    have hsl : ¬ (s : Int) < (L.len : Int) := by omega
    clear h hn hav hpos hs hz hge
    go_enter Tryz.func45, Tryz.ntmps45
    go_wp2
    go_quiet (fail)
    go_wp2
    go_ret
    exact ⟨rfl, _, rfl⟩
theorem at0 (G : Cfg) (hG : Base G) (L : Lay) (w : World) (h : DL G L w) (ha : Av G L 1) :
    Calls Tryz.prog 45 #[.pointer (some ⟨G.D, 0, none⟩), .int .i64 0] w (AtOut G L w (G.T.getD L.pos 0)) := by
  have := at57 G hG L w h ha.1 0 (by omega) (fun e => by have := ha.2; have hp : L.pos = L.base + L.r1 := rfl; omega)
  simpa using this
theorem at1 (G : Cfg) (hG : Base G) (L : Lay) (w : World) (h : DL G L w) (ha : Av G L 2) :
    Calls Tryz.prog 45 #[.pointer (some ⟨G.D, 0, none⟩), .int .i64 1] w (AtOut G L w (G.T.getD (L.pos + 1) 0)) := by
  have := at57 G hG L w h ha.1 1 (by omega) (fun e => by have := ha.2; have hp : L.pos = L.base + L.r1 := rfl; omega)
  simpa using this

/-- A decoder that stands n bytes further. -/
def Lay.fwd (L : Lay) (n : Nat) : Lay := { L with r1 := L.r1 + n }
theorem adv59 (G : Cfg) (hG : Base G) (L : Lay) (w : World) (h : DL G L w) (hn : L.nb = false) (n : Nat) (hle : L.r1 + n ≤ L.len) :
    Calls Tryz.prog 48 #[.pointer (some ⟨G.D, 0, none⟩), .int .i64 n] w fun e w' => e = .returned (.tuple #[]) ∧ Hid (DL G (L.fwd n) w' ∧ Go G L w (L.fwd n) w') := by
  obtain ⟨c0, c1, c2, c3, c4, c5, c6, c7, c8, c9⟩ := h.cells
  have hl := h.lenle hG
  have h1l := h.r1l
  have z3 := Rw.fz h.row 3
  have hp := h.put (L' := L.fwd n) 3 (.int .i64 ((L.r1 : Int) + (n : Int))) (by
    have e : ((L.r1 + n : Nat) : Int) = (L.r1 : Int) + (n : Int) := by omega
    unfold Lay.cells
    simp only [Lay.fwd, e]
    rfl) ⟨rfl, rfl, rfl, rfl, rfl, rfl, rfl, rfl, rfl, rfl⟩ (fun e => (by rw [show (L.fwd n).nb = L.nb from rfl, hn] at e; cases e)) (by have := h.r01; show L.r0 ≤ L.r1 + n; omega) hle h.line hG
  have HP := Lib.hid hp
  have hb1 : (L.r1 : Int) + (n : Int) ≤ 4000 := by omega
  have hb0 : (0 : Int) ≤ (L.r1 : Int) := by omega
  have hb2 : (0 : Int) ≤ (n : Int) := by omega
  clear hp h hle hn
  go_enter Tryz.func48, Tryz.ntmps48
  go_wp2
  go_end0
  exact ⟨rfl, Lib.hid HP.out⟩
theorem Lay.fwd_mv (L : Lay) (n : Nat) (hn : L.nb = false) : Mv L (L.fwd n) n := ⟨rfl, rfl, rfl, hn, rfl, rfl⟩
theorem Av.fwd {G : Cfg} {L : Lay} {k : Nat} (h : Av G L k) (n : Nat) (hn : L.r1 + n ≤ L.len) : Av G (L.fwd n) (k - n) := ⟨h.1, by
  have := h.2
  unfold Lay.pos at *
  show min (L.base + (L.r1 + n) + (k - n)) G.T.length ≤ L.base + L.len
  omega⟩
theorem adv1 (G : Cfg) (hG : Base G) (L : Lay) (w : World) (h : DL G L w) (ha : Av G L 1) (hlt : L.pos < G.T.length) :
    Calls Tryz.prog 48 #[.pointer (some ⟨G.D, 0, none⟩), .int .i64 1] w fun e w' => e = .returned (.tuple #[]) ∧ Hid (DL G (L.fwd 1) w' ∧ Go G L w (L.fwd 1) w') := by
  have := adv59 G hG L w h ha.1 1 (by have := ha.2; have hp : L.pos = L.base + L.r1 := rfl; omega)
  simpa using this
theorem adv2 (G : Cfg) (hG : Base G) (L : Lay) (w : World) (h : DL G L w) (ha : Av G L 2) (hlt : L.pos + 1 < G.T.length) :
    Calls Tryz.prog 48 #[.pointer (some ⟨G.D, 0, none⟩), .int .i64 2] w fun e w' => e = .returned (.tuple #[]) ∧ Hid (DL G (L.fwd 2) w' ∧ Go G L w (L.fwd 2) w') := by
  have := adv59 G hG L w h ha.1 2 (by have := ha.2; have hp : L.pos = L.base + L.r1 := rfl; omega)
  simpa using this

/-- What ensure leaves. -/
def EnsOut (G : Cfg) (L : Lay) (w : World) (n : Nat) (e : Ending) (w' : World) : Prop :=
  e = .returned (.bool (decide (L.pos + n ≤ G.T.length))) ∧ Hid (∃ L', DL G L' w' ∧ Go G L w L' w' ∧ Ens L L' ∧ Av G L' n ∧ (L.pos + n ≤ G.T.length → L'.r1 + n ≤ L'.len) ∧ (¬ L.pos + n ≤ G.T.length → L'.base + L'.len = G.T.length))
set_option maxRecDepth 100000 in
theorem ensure1 (G : Cfg) (hG : Base G) (L : Lay) (w : World) (h : DL G L w) (n : Nat) (hn : n ≤ 5000) (hno : L.len < L.r1 + n) :
    Calls Tryz.prog 49 #[.pointer (some ⟨G.D, 0, none⟩), .int .i64 n] w (EnsOut G L w n) := by
  have HL := Lib.hid h
  obtain ⟨r, hr⟩ : ∃ r, decide (L.pos + n ≤ G.T.length) = r := ⟨_, rfl⟩
  have HR := Lib.hid hr
  have hpos : L.pos = L.base + L.r1 := rfl
  have HPOS := Lib.hid hpos
  have hb := h.blen
  have h1l := h.r1l
  clear h hr hpos
  go_enter Tryz.func49, Tryz.ntmps49
  go_wp2_with fail
  go_loopw [5] (fun _ wr => ∃ L1, Hid (DL G L1 wr ∧ Go G L w L1 wr ∧ (L1 = L ∨ Ens L L1) ∧ L1.len < L1.r1 + n)) (fun _ wr => ms G wr)
  case atStart => exact ⟨L, Lib.hid ⟨HL.out, Go.refl _ _ _, .inl rfl, hno⟩⟩
  case round =>
    obtain ⟨L1, hI⟩ := hrel
    obtain ⟨i1, i2, i3, i4⟩ := hI.out
    obtain ⟨c0, c1, c2, c3, c4, c5, c6, c7, c8, c9⟩ := i1.cells
    have hsame : L1.base = L.base ∧ L1.r1 = L.r1 := by
      rcases i3 with e | e
      · subst e; exact ⟨rfl, rfl⟩
      · exact ⟨e.base, by have := e.r1; omega⟩
    cases hcm : L1.cm with
    | true =>
      rw [hcm] at c4
      have hall := i1.all hcm
      have hnb : L1.nb = false := by
        cases hb : L1.nb with
        | false => rfl
        | true => have := (i1.nbz hb).2.2.2; rw [hcm] at this; cases this
      have hfin : ∃ L', DL G L' wr ∧ Go G L w L' wr ∧ Ens L L' ∧ Av G L' n ∧ (L.pos + n ≤ G.T.length → L'.r1 + n ≤ L'.len) ∧ (¬ L.pos + n ≤ G.T.length → L'.base + L'.len = G.T.length) := by
        refine ⟨L1, i1, i2, ?_, ⟨hnb, ?_⟩, ?_, fun _ => hall⟩
        · rcases i3 with e | e
          · subst e; exact ⟨⟨rfl, rfl, rfl, hnb, rfl, rfl⟩, rfl, rfl, rfl, rfl, Nat.le_refl _⟩
          · exact e
        · omega
        · intro e; have := HPOS.out; omega
      have HF := Lib.hid hfin
      have hrf : r = false := by rw [← HR.out]; have := HPOS.out; simp; omega
      have HRF := Lib.hid hrf
      clear hfin i1 i2 i3 i4 hcm hall hnb hrf hsame
      go_wp2
      go_ret
      exact ⟨by rw [HR.out, HRF.out]; rfl, HF⟩
    | false =>
      rw [hcm] at c4
      have HM := Lib.hid (more G hG L1 wr i1 hcm)
      have I3 := Lib.hid i3
      have I2 := Lib.hid i2
      have HS := Lib.hid hsame
      clear i1 i2 i3 i4 hcm hsame c0 c1 c2 c3 c5 c6 c7 c8 c9
      go_wp2_with fail
      refine HM.out.mono ?_
      rintro e w2 ⟨rfl, hm⟩
      obtain ⟨L2, d1, d2, d3, d4⟩ := hm.out
      have hE : Ens L L2 := by
        rcases I3.out with e | e
        · subst e; exact d3
        · exact e.trans d3
      have hG2 : Go G L w L2 w2 := I2.out.trans HL.out d2
      have hs2 : L2.base = L.base ∧ L2.r1 = L.r1 := ⟨hE.base, by have := hE.r1; omega⟩
      obtain ⟨e0, e1, e2, e3, e4, e5, e6, e7, e8, e9⟩ := d1.cells
      rw [bufv_of d3.nb] at e1
      have hl := d1.lenle hG
      have h2l := d1.r1l
      have hb2 := d1.blen
      obtain ⟨s, hs⟩ : ∃ s, L2.r1 + n = s := ⟨_, rfl⟩
      have hw : IntKind.i64.wrap ((L2.r1 : Int) + (n : Int)) = (s : Int) := by rw [IntKind.wrap_i64]; omega
      have hs0 : (0 : Int) ≤ (s : Int) := by omega
      have HMS := Lib.hid d4
      have HD := Lib.hid (show DL G L2 w2 ∧ Go G L w L2 w2 ∧ Ens L L2 ∧ (L2.base = L.base ∧ L2.r1 = L.r1) ∧ L2.r1 + n = s ∧ L2.base + L2.len ≤ G.T.length from ⟨d1, hG2, hE, hs2, hs, hb2⟩)
      clear d1 d2 d3 d4 hE hG2 hs2 hs hm hb2
      by_cases hlt : s ≤ L2.len
      · have hsl : (s : Int) ≤ (L2.len : Int) := by omega
        go_wp2
        go_quiet (fail)
        have hfin : ∃ L', DL G L' (w2.drewN nq) ∧ Go G L w L' (w2.drewN nq) ∧ Ens L L' ∧ Av G L' n ∧ (L.pos + n ≤ G.T.length → L'.r1 + n ≤ L'.len) ∧ (¬ L.pos + n ≤ G.T.length → L'.base + L'.len = G.T.length) := by
          obtain ⟨d1, d2, d3, d4, d5, d6⟩ := HD.out
          refine ⟨L2, d1.drewN nq, d2.trans HL.out (Go.drewN G L2 w2 nq), d3, ⟨d3.nb, ?_⟩, fun _ => by omega, fun e => ?_⟩
          · have := d3.pos; have := HPOS.out; omega
          · exfalso; have := HPOS.out; omega
        have HF := Lib.hid hfin
        have hrf : r = true := by rw [← HR.out]; have := HPOS.out; obtain ⟨d1, d2, d3, d4, d5, d6⟩ := HD.out; simp; omega
        have HRF := Lib.hid hrf
        clear hfin hrf
        go_wp2
        go_ret
        exact ⟨by rw [HR.out, HRF.out]; rfl, HF⟩
      · have hsl : ¬ (s : Int) ≤ (L2.len : Int) := by omega
        go_wp2
        go_quiet (fail)
        go_wp2
        go_roundw
        case rel =>
          obtain ⟨d1, d2, d3, d4, d5, d6⟩ := HD.out
          exact ⟨L2, Lib.hid ⟨d1.drewN nq, d2.trans HL.out (Go.drewN G L2 w2 nq), .inr d3, by omega⟩⟩
        case measure => exact HMS.out
end Go.Proofs.YtlcbcgillekphaaGreatDoor.dec
namespace Go.Proofs.YtlcbcgillekphaaGreatDoor.dec
open Go.RowKit Mem rw
set_option linter.unusedVariables false

theorem bufv_len {G : Cfg} {L : Lay} {w : World} (h : DL G L w) : ∃ a c, L.bufv = .slice a L.len c := by
  cases hn : L.nb with
  | false => exact ⟨_, _, bufv_of hn⟩
  | true =>
    have := (h.nbz hn).1
    exact ⟨none, 0, by unfold Lay.bufv; rw [hn, this]; rfl⟩
set_option maxRecDepth 100000 in
theorem ensure (G : Cfg) (hG : Base G) (L : Lay) (w : World) (h : DL G L w) (n : Nat) (hn : n ≤ 5000) (hn1 : 1 ≤ n) :
    Calls Tryz.prog 27 #[.pointer (some ⟨G.D, 0, none⟩), .int .i64 n] w (EnsOut G L w n) := by
  obtain ⟨c0, c1, c2, c3, c4, c5, c6, c7, c8, c9⟩ := h.cells
  obtain ⟨a, c, hbv⟩ := bufv_len h
  rw [hbv] at c1
  have hl := h.lenle hG
  have h1l := h.r1l
  have hb := h.blen
  have hpos : L.pos = L.base + L.r1 := rfl
  obtain ⟨s, hs⟩ : ∃ s, L.r1 + n = s := ⟨_, rfl⟩
  have hw : IntKind.i64.wrap ((L.r1 : Int) + (n : Int)) = (s : Int) := by rw [IntKind.wrap_i64]; omega
  have hs0 : (0 : Int) ≤ (s : Int) := by omega
  by_cases hlt : s ≤ L.len
  · have hsl : (s : Int) ≤ (L.len : Int) := by omega
    have hnb : L.nb = false := by
      cases hb : L.nb with
      | false => rfl
      | true => have := (h.nbz hb).1; omega
    have HF : Hid (∀ q, EnsOut G L w n (.returned (.bool true)) (w.drewN q)) := Lib.hid fun q => ⟨by rw [show decide (L.pos + n ≤ G.T.length) = true by simp; omega], Lib.hid ⟨L, h.drewN q, Go.drewN G L w q, ⟨⟨rfl, rfl, rfl, hnb, rfl, rfl⟩, rfl, rfl, rfl, rfl, Nat.le_refl _⟩, ⟨hnb, by omega⟩, fun _ => by omega, fun e => by omega⟩⟩
    clear h hbv hpos hs hnb hb
    go_enter Tryz.func27, Tryz.ntmps27
    go_wp2
    go_quiet (fail)
    go_wp2
    go_ret
    exact HF.out nq
  · have hsl : ¬ (s : Int) ≤ (L.len : Int) := by omega
    have HE := Lib.hid (fun q => ensure1 G hG L (w.drewN q) (h.drewN q) n hn (by omega))
    have HF : Hid (∀ q e w', EnsOut G L (w.drewN q) n e w' → EnsOut G L w n e w') := Lib.hid fun q e w' hE => ⟨hE.1, Lib.hid (by
      obtain ⟨L', d1, d2, d3⟩ := hE.2.out
      exact ⟨L', d1, (Go.drewN G L w q).trans h d2, d3⟩)⟩
    clear h hbv hpos hs hb
    go_enter Tryz.func27, Tryz.ntmps27
    go_wp2
    go_quiet (fail)
    go_wp2_with fail
    refine (HE.out _).mono ?_
    rintro e w2 hE
    have HE2 := Lib.hid (HF.out _ _ _ hE)
    have he := hE.1
    subst he
    clear hE
    go_wp2
    go_ret
    exact HE2.out
theorem ens1 (G : Cfg) (hG : Base G) (L : Lay) (w : World) (h : DL G L w) :
    Calls Tryz.prog 27 #[.pointer (some ⟨G.D, 0, none⟩), .int .i64 1] w (EnsOut G L w 1) := by
  have := ensure G hG L w h 1 (by omega) (by omega)
  simpa using this
theorem ens2 (G : Cfg) (hG : Base G) (L : Lay) (w : World) (h : DL G L w) :
    Calls Tryz.prog 27 #[.pointer (some ⟨G.D, 0, none⟩), .int .i64 2] w (EnsOut G L w 2) := by
  have := ensure G hG L w h 2 (by omega) (by omega)
  simpa using this
end Go.Proofs.YtlcbcgillekphaaGreatDoor.dec
namespace Go.Proofs.YtlcbcgillekphaaGreatDoor.dec
open Go.RowKit Mem rw
set_option linter.unusedVariables false

/-- What a step leaves of a decoder's lay, its lines and its escape buffer too. -/
structure Sm (L L' : Lay) (n : Nat) : Prop where
  base : L'.base = L.base
  r0 : L'.r0 = L.r0
  r1 : L'.r1 = L.r1 + n
  sec : L'.sec = L.sec
  sk : L'.sk = L.sk
  line : L'.line = L.line
  esc : L'.esc = L.esc
  E : L'.E = L.E
  ecap : L'.ecap = L.ecap
theorem Sm.refl (L : Lay) : Sm L L 0 := ⟨rfl, rfl, rfl, rfl, rfl, rfl, rfl, rfl, rfl⟩
theorem Sm.trans {L L1 L2 : Lay} {n m : Nat} (a : Sm L L1 n) (b : Sm L1 L2 m) : Sm L L2 (n + m) :=
  ⟨b.base.trans a.base, b.r0.trans a.r0, by rw [b.r1, a.r1]; omega, b.sec.trans a.sec, b.sk.trans a.sk, b.line.trans a.line, b.esc.trans a.esc, b.E.trans a.E, b.ecap.trans a.ecap⟩
theorem Ens.sm {L L' : Lay} (h : Ens L L') : Sm L L' 0 := ⟨h.base, h.r0, h.r1, h.sec, h.sk, h.line, h.esc, h.E, h.ecap⟩
theorem Sm.fwd (L : Lay) (n : Nat) : Sm L (L.fwd n) n := ⟨rfl, rfl, rfl, rfl, rfl, rfl, rfl, rfl, rfl⟩
theorem Sm.pos {L L' : Lay} {n : Nat} (h : Sm L L' n) : L'.pos = L.pos + n := by unfold Lay.pos; rw [h.base, h.r1]; omega
theorem Sm.mv {L L' : Lay} {n : Nat} (h : Sm L L' n) (hn : L'.nb = false) : Mv L L' n := ⟨h.base, h.r0, h.r1, hn, h.sec, h.sk⟩
/-- The first n bytes from pos on are of a set. -/
def Run (T : List UInt8) (p : UInt8 → Bool) (a n : Nat) : Prop := ∀ j, j < n → a + j < T.length ∧ p (T.getD (a + j) 0) = true
theorem Run.zero (T : List UInt8) (p : UInt8 → Bool) (a : Nat) : Run T p a 0 := fun j hj => by omega
theorem Run.one {T : List UInt8} {p : UInt8 → Bool} {a n : Nat} (h : Run T p a n) (hl : a + n < T.length) (hp : p (T.getD (a + n) 0) = true) : Run T p a (n + 1) := fun j hj => by
  by_cases e : j = n
  · subst e; exact ⟨hl, hp⟩
  · exact h j (by omega)
theorem takeWhile_run (p : UInt8 → Bool) : ∀ (n : Nat) (l : List UInt8), (∀ j, j < n → j < l.length ∧ p (l.getD j 0) = true) → (n = l.length ∨ p (l.getD n 0) = false) → (l.takeWhile p).length = n
  | 0, [], _, _ => rfl
  | 0, c :: t, _, h => by
    rcases h with h | h
    · simp at h
    · have : p c = false := by simpa using h
      simp [List.takeWhile, this]
  | n + 1, [], h, _ => by have := (h 0 (by omega)).1; simp at this
  | n + 1, c :: t, h, h2 => by
    have hc : p c = true := by simpa using (h 0 (by omega)).2
    rw [List.takeWhile_cons_of_pos hc, List.length_cons, takeWhile_run p n t (fun j hj => by have := h (j + 1) (by omega); simpa using this) (by simpa using h2)]
theorem Run.runN {T : List UInt8} {p : UInt8 → Bool} {a n : Nat} (h : Run T p a n) (he : a + n = T.length ∨ (a + n < T.length ∧ p (T.getD (a + n) 0) = false)) (ha : a ≤ T.length) : dm.runN p (T.drop a) = n := by
  unfold dm.runN
  have hg : ∀ j, (T.drop a).getD j 0 = T.getD (a + j) 0 := fun j => by simp [List.getD_eq_getElem?_getD, List.getElem?_drop]
  refine takeWhile_run p n _ (fun j hj => ?_) ?_
  · have := h j hj
    rw [hg, List.length_drop]
    exact ⟨by omega, this.2⟩
  · rw [hg, List.length_drop]
    rcases he with e | e
    · exact .inl (by omega)
    · exact .inr e.2
/-- What take leaves. -/
def TakeOut (G : Cfg) (L : Lay) (w : World) (p : UInt8 → Bool) (e : Ending) (w' : World) : Prop :=
  ∃ (a : Option Addr) (n c : Nat), e = .returned (.slice a n c) ∧ Hid (n = dm.runN p (G.T.drop L.pos) ∧ ∃ L', DL G L' w' ∧ Go G L w L' w' ∧ Sm L L' n ∧ Av G L' 1 ∧ Held G L' w' a ((G.T.drop L.pos).take n) ∧ n ≤ c)
def r1of (G : Cfg) (w : World) : Nat := match w.cell? ⟨G.D, 3, none⟩ with | some (.int _ a) => a.toNat | _ => 0
theorem r1of_eq {G : Cfg} {L : Lay} {w : World} (h : DL G L w) : r1of G w = L.r1 := by
  unfold r1of
  rw [h.cells.2.2.2.1]
  simp
theorem take_fin {G : Cfg} {L L1 : Lay} {w wr : World} {p : UInt8 → Bool} {m : Nat} (h0 : DL G L w) (h : DL G L1 wr) (g : Go G L w L1 wr) (s : Sm L L1 m) (hr : Run G.T p L.pos m) (ha : Av G L1 1)
    (he : L.pos + m = G.T.length ∨ (L.pos + m < G.T.length ∧ p (G.T.getD (L.pos + m) 0) = false)) (x c q : Nat) (hx : x ≤ L.r1 ∧ (m ≠ 0 → x = L.r1)) (hmc : m ≤ c) :
    TakeOut G L w p (.returned (.slice (some ⟨L1.B, x, none⟩) m c)) (wr.drewN q) := by
  have hp : L.pos = L.base + L.r1 := rfl
  have hle : L.pos ≤ G.T.length := by have := h0.blen; have := h0.r1l; omega
  have hn : m = dm.runN p (G.T.drop L.pos) := (hr.runN he hle).symm
  refine ⟨_, m, c, rfl, Lib.hid ⟨hn, L1, h.drewN q, g.trans h0 (Go.drewN G L1 wr q), s, ha, ?_, hmc⟩⟩
  have hb := h.buf ha.1
  have e1 := s.base
  have e2 := s.r1
  have e3 := h.r1l
  have e4 := h.blen
  have hl : ((G.T.drop L.pos).take m).length = m := by rw [List.length_take, List.length_drop]; omega
  refine ⟨.inr ⟨_, _, rfl, fun j y hy => ?_⟩, fun A off e => ?_⟩
  · have hj : j < m := by have := (List.getElem?_eq_some_iff.1 hy).1; omega
    rw [List.getElem?_take, if_pos hj, List.getElem?_drop] at hy
    have := h.byte ha.1 (j := L.r1 + j) (by omega)
    rw [show (wr.drewN q).cell? _ = wr.cell? _ from rfl, hx.2 (by omega), this, show L1.base + (L.r1 + j) = L.pos + j by omega, List.getD_eq_getElem?_getD, hy]
    rfl
  · cases e
    refine ⟨hb.1.lt, .inl ⟨ha.1, rfl, by omega⟩⟩
set_option maxRecDepth 100000 in
set_option maxHeartbeats 1000000 in
theorem take30 (G : Cfg) (hG : Base G) (L : Lay) (w : World) (h : DL G L w) (SB : Nat) (f : Nat → Bool) (p : UInt8 → Bool) (hfp : ∀ c : UInt8, f c.toNat = p c) (hS : set.SetAt w SB f) (hSo : SB ∉ own G L) :
    Calls Tryz.prog 43 #[.pointer (some ⟨G.D, 0, none⟩), .pointer (some ⟨SB, 0, none⟩)] w (TakeOut G L w p) := by
  obtain ⟨c0, c1, c2, c3, c4, c5, c6, c7, c8, c9⟩ := h.cells
  have hl := h.lenle hG
  have h1l := h.r1l
  have h01 := h.r01
  have hbl := h.blen
  obtain ⟨st, hst⟩ : ∃ st, L.r1 - L.r0 = st := ⟨_, rfl⟩
  have hw : IntKind.i64.wrap ((L.r1 : Int) - (L.r0 : Int)) = (st : Int) := by rw [IntKind.wrap_i64]; omega
  obtain ⟨n0, hn0⟩ : ∃ n0, G.T.length - L.pos = n0 := ⟨_, rfl⟩
  have HL := Lib.hid h
  have HS := Lib.hid (show set.SetAt w SB f ∧ SB ∉ own G L from ⟨hS, hSo⟩)
  have HFP := Lib.hid hfp
  have HST := Lib.hid (show L.r0 + st = L.r1 by omega)
  have HN0 := Lib.hid hn0
  have HT := Lib.hid hG.tlen
  have HG := Lib.hid hG
  clear h hS hfp hst hSo hn0 hG hbl
  go_enter Tryz.func43, Tryz.ntmps43
  go_wp2
  go_step3
  go_wp2
  go_quiet (fail)
  go_wp2_with fail
  go_step3
  go_wp2_with fail
  have fin : Hid (∀ L1 m wr, DL G L1 wr → Go G L w L1 wr → Sm L L1 m → Run G.T p L.pos m → Av G L1 1 → (L.pos + m = G.T.length ∨ (L.pos + m < G.T.length ∧ p (G.T.getD (L.pos + m) 0) = false)) → ∀ (x c q : Nat), (x ≤ L.r1 ∧ (m ≠ 0 → x = L.r1)) → m ≤ c →
    TakeOut G L w p (.returned (.slice (some ⟨L1.B, x, none⟩) m c)) (wr.drewN q)) := Lib.hid fun L1 m wr a b cc d e f x c q h hm => take_fin HL.out a b cc d e f x c q h hm
  go_loopg [6] n0 (fun g s6 wr => ∃ L1 m, m + g = n0 ∧ Hid (DL G L1 wr ∧ Go G L w L1 wr ∧ Sm L L1 m ∧ Run G.T p L.pos m))
  case atStart => exact ⟨L, 0, by omega, Lib.hid ⟨HL.out.drewN nq, Go.drewN G L w nq, Sm.refl L, Run.zero _ _ _⟩⟩
  case round =>
    obtain ⟨L1, m, hmg, hI⟩ := hrel
    have HE := Lib.hid (ens1 G HG.out L1 wr hI.out.1)
    clear c0 c1 c2 c3 c4 c5 c6 c7 c8 c9
    go_wp2_with fail
    refine HE.out.mono ?_
    rintro e w2 ⟨he, hE⟩
    obtain ⟨L2, d1, d2, d3, d4, d5, d6⟩ := hE.out
    obtain ⟨i1, i2, i3, i4⟩ := hI.out
    have HD := Lib.hid (show DL G L2 w2 ∧ Go G L w L2 w2 ∧ Sm L L2 m ∧ Run G.T p L.pos m ∧ Av G L2 1 from ⟨d1, i2.trans HL.out d2, by simpa using i3.trans d3.sm, i4, d4⟩)
    have hsm := HD.out.2.2.1
    obtain ⟨c0, c1, c2, c3, c4, c5, c6, c7, c8, c9⟩ := d1.cells
    rw [bufv_of d4.1] at c1
    have hb2 := d1.blen
    have hl2 := d1.lenle HG.out
    have h2l := d1.r1l
    have e1 := hsm.base
    have e2 := hsm.r1
    have e0 := hsm.r0
    have hp1 := i3.pos
    have hp : L.pos = L.base + L.r1 := rfl
    have hcap := (d1.buf d4.1).1.le
    rw [d1.blen'] at hcap
    have hst1 := HST.out
    have hw0 : IntKind.i64.wrap ((L2.r0 : Int) + (st : Int)) = ((L.r1 : Nat) : Int) := by rw [IntKind.wrap_i64]; omega
    by_cases hlt : L1.pos + 1 ≤ G.T.length
    · rw [show decide (L1.pos + 1 ≤ G.T.length) = true by simpa using hlt] at he
      subst he
      have hr2 := d5 hlt
      obtain ⟨bl, hbl⟩ : ∃ bl, L2.len - L2.r1 = bl := ⟨_, rfl⟩
      have hwb : ((L2.len : Int) - (L2.r1 : Int)) = (bl : Int) := by omega
      have hcl : ¬ L2.cap = L2.r1 := by omega
      have hle1 : (L2.r1 : Int) ≤ (L2.len : Int) := by omega
      have HPUT : Hid (∀ (q j : Nat), j ≤ bl → DL G (L2.fwd j) ((w2.drewN q).setCell ⟨G.D, 3, none⟩ (.int .i64 ((L2.r1 : Int) + (j : Int)))) ∧ Go G L w (L2.fwd j) ((w2.drewN q).setCell ⟨G.D, 3, none⟩ (.int .i64 ((L2.r1 : Int) + (j : Int))))) := Lib.hid fun q j hj => by
        obtain ⟨d1, d2, d3, d4, d5⟩ := HD.out
        have hp := (d1.drewN q).put (L' := L2.fwd j) 3 (.int .i64 ((L2.r1 : Int) + (j : Int))) (by
          have e : ((L2.r1 + j : Nat) : Int) = (L2.r1 : Int) + (j : Int) := by omega
          unfold Lay.cells
          simp only [Lay.fwd, e]
          rfl) ⟨rfl, rfl, rfl, rfl, rfl, rfl, rfl, rfl, rfl, rfl⟩ (fun e => (by rw [show (L2.fwd j).nb = L2.nb from rfl, d5.1] at e; cases e)) (by have := d1.r01; show L2.r0 ≤ L2.r1 + j; omega) (by show L2.r1 + j ≤ L2.len; omega) d1.line HG.out
        exact ⟨hp.1, (d2.trans HL.out (Go.drewN G L2 w2 q)).trans HL.out hp.2⟩
      have HQ := Lib.hid (show L2.base = L.base ∧ L2.r1 = L.r1 + m ∧ L2.r0 = L.r0 ∧ L1.pos = L.pos + m ∧ L.pos = L.base + L.r1 from ⟨e1, e2, e0, hp1, hp⟩)
      have z3 : w2.frozen? ⟨G.D, 3, none⟩ = false := Rw.fz d1.row 3
      have hr1b : (L2.r1 : Int) ≤ 4000 := by omega
      have hblb : bl ≤ 4000 := by omega
      have hbl1 : 1 ≤ bl := by omega
      clear d1 d2 d3 d4 d5 d6 i1 i2 i3 i4 hE hsm hI e0 e1 e2 hp1 hp hlt hst1
      go_wp2
      go_quiet (fail)
      go_wp2_with fail
      obtain ⟨gO, hgO⟩ : ∃ gO, gO = gk := ⟨_, rfl⟩
      go_loopg [32] bl (fun g2 s32 wy => ∃ j : Nat, j + g2 = bl ∧ s32 = .int .i64 j ∧ w2.drewN nq = wy ∧ Hid (Run G.T p L.pos (m + j)))
      case atStart => exact ⟨0, by omega, rfl, rfl, Lib.hid (by obtain ⟨d1, d2, d3, d4, d5⟩ := HD.out; simpa using d4)⟩
      case round =>
        obtain ⟨j, hjg, rfl, rfl, HR⟩ := hrel
        cases gk with
        | zero =>
          have hjz : ¬ (j : Int) < (bl : Int) := by omega
          have hjb : j = bl := by omega
          have hk : gO - bl < gO := by
            obtain ⟨q1, q2, q3, q4, q5⟩ := HQ.out
            have := HN0.out
            omega
          have HREL : Hid (m + bl + (gO - bl) = n0 ∧ (DL G (L2.fwd bl) ((w2.drewN nq).setCell ⟨G.D, 3, none⟩ (.int .i64 ((L2.r1 : Int) + (bl : Int)))) ∧ Go G L w (L2.fwd bl) ((w2.drewN nq).setCell ⟨G.D, 3, none⟩ (.int .i64 ((L2.r1 : Int) + (bl : Int)))) ∧ Sm L (L2.fwd bl) (m + bl) ∧ Run G.T p L.pos (m + bl))) := Lib.hid (by
            obtain ⟨d1, d2, d3, d4, d5⟩ := HD.out
            obtain ⟨q1, q2, q3, q4, q5⟩ := HQ.out
            refine ⟨by have := HN0.out; omega, (HPUT.out nq bl (Nat.le_refl _)).1, (HPUT.out nq bl (Nat.le_refl _)).2, d3.trans (Sm.fwd L2 bl), by rw [← hjb]; exact HR.out⟩)
          have hgk := hgO
          clear hjb
          go_wp2
          go_roundg (gO - bl)
          case measure => omega
          case rel => exact ⟨L2.fwd bl, m + bl, HREL.out.1, Lib.hid HREL.out.2⟩
        | succ g2 =>
          have hjz : (j : Int) < (bl : Int) := by omega
          obtain ⟨d1, d2, d3, d4, d5⟩ := HD.out
          obtain ⟨q1, q2, q3, q4, q5⟩ := HQ.out
          have hcell := d1.byte d5.1 (j := L2.r1 + j) (by omega)
          have hpc : G.T.getD (L2.base + (L2.r1 + j)) 0 = G.T.getD (L.pos + (m + j)) 0 := by rw [show L2.base + (L2.r1 + j) = L.pos + (m + j) by omega]
          rw [hpc] at hcell
          have hlt : L.pos + (m + j) < G.T.length := by have := d1.blen; omega
          have hS2 := set.SetAt.but HS.out.1 (d2.but) HS.out.2
          have hG33 : ∀ c : UInt8, Calls Tryz.prog 58 #[.pointer (some ⟨SB, 0, none⟩), .int .u8 c.toNat] (w2.drewN nq) fun e w' => e = .returned (.bool (f c.toNat)) ∧ w2.drewN nq = w' := fun c => set.get33 SB f c _ hS2
          obtain ⟨c, hc⟩ : ∃ c, G.T.getD (L.pos + (m + j)) 0 = c := ⟨_, rfl⟩
          rw [hc] at hcell
          have hcb := c.toNat_lt
          have HC := Lib.hid (hG33 c)
          have hfc := HFP.out c
          rw [hfc] at HC
          clear hG33 hS2 d1 d2 d3 d4 hpc hfc
          cases hpp : p c with
          | true =>
            rw [hpp] at HC
            have HR1 : Hid (Run G.T p L.pos (m + (j + 1))) := Lib.hid (HR.out.one hlt (by rw [hc]; exact hpp))
            clear q1 q2 q3 q4 q5 hpp hc hlt d5
            go_wp2_with fail
            refine HC.out.mono ?_
            rintro e w4 ⟨rfl, rfl⟩
            go_wp2
            go_roundg g2
            case measure => omega
            case rel => exact ⟨j + 1, by omega, by go_num, rfl, HR1⟩
          | false =>
            rw [hpp] at HC
            obtain ⟨w4, hw4⟩ : ∃ w4, (w2.drewN nq).setCell ⟨G.D, 3, none⟩ (.int .i64 ((L2.r1 : Int) + (j : Int))) = w4 := ⟨_, rfl⟩
            have hP4 := HPUT.out nq j (by omega)
            rw [hw4] at hP4
            obtain ⟨k0, k1, k2, k3, k4, k5, k6, k7, k8, k9⟩ := hP4.1.cells
            obtain ⟨hi, hhi⟩ : ∃ hi, L2.r1 + j = hi := ⟨_, rfl⟩
            obtain ⟨mj, hmj⟩ : ∃ mj, hi - L.r1 = mj := ⟨_, rfl⟩
            rw [bufv_of (show (L2.fwd j).nb = false from d5.1)] at k1
            have k1' : w4.cell? ⟨G.D, 1, none⟩ = some (.slice (some ⟨L2.B, 0, none⟩) L2.len L2.cap) := k1
            have k2' : w4.cell? ⟨G.D, 2, none⟩ = some (.int .i64 (L2.r0 : Int)) := k2
            have k3' : w4.cell? ⟨G.D, 3, none⟩ = some (.int .i64 (hi : Int)) := by rw [← hhi]; exact k3
            have hcl2 : ¬ L2.cap = L.r1 := by omega
            have hlh : (L.r1 : Int) ≤ (hi : Int) := by omega
            have hhc : (hi : Int) ≤ (L2.cap : Int) := by omega
            have FIN : Hid (∀ q, TakeOut G L w p (.returned (.slice (some ⟨L2.B, L.r1, none⟩) mj (L2.cap - L.r1))) (w4.drewN q)) := Lib.hid fun q => by
              have hav : Av G (L2.fwd j) 1 := ⟨d5.1, by show min (L2.base + (L2.r1 + j) + 1) G.T.length ≤ L2.base + L2.len; omega⟩
              have hmm : mj = m + j := by omega
              subst hmm
              exact fin.out (L2.fwd j) (m + j) w4 hP4.1 hP4.2 ((HD.out.2.2.1).trans (Sm.fwd L2 j)) HR.out hav (.inr ⟨hlt, by rw [hc]; exact hpp⟩) L.r1 _ q ⟨Nat.le_refl _, fun _ => rfl⟩ (by omega)
            clear k0 k1 k2 k3 k4 k5 k6 k7 k8 k9 hP4 q1 q2 q3 q4 q5 hpp hc hlt d5 hhi
            go_wp2_with fail
            refine HC.out.mono ?_
            rintro e w5 ⟨rfl, rfl⟩
            go_wp2
            clear hw4 hcell c1 c2 c3 c0 c4 c5 c6 c7 c8 c9
            go_quiet (fail)
            go_wp2
            rw [Exit.noGoto_ret]
            go_ret
            exact FIN.out _
    · rw [show decide (L1.pos + 1 ≤ G.T.length) = false by simpa using hlt] at he
      subst he
      have hpe : L1.pos = G.T.length := by have := i1.blen; have := i1.r1l; unfold Lay.pos at *; omega
      have hln : L2.r1 - L.r1 = m := by omega
      have hlh : (L.r1 : Int) ≤ (L2.r1 : Int) := by omega
      have hhc : (L2.r1 : Int) ≤ (L2.cap : Int) := by omega
      by_cases hcl2 : L2.cap = L.r1
      · have hm0 : m = 0 := by omega
        have FIN : Hid (∀ c q, TakeOut G L w p (.returned (.slice (some ⟨L2.B, 0, none⟩) m c)) (w2.drewN q)) := Lib.hid fun c q => by
          obtain ⟨f1, f2, f3, f4, f5⟩ := HD.out
          exact fin.out L2 m w2 f1 f2 f3 f4 f5 (.inl (by omega)) 0 _ q ⟨Nat.zero_le _, fun h => absurd hm0 h⟩ (by omega)
        clear d1 d2 d3 d4 d5 d6 i1 i2 i3 i4 hE hsm hI e0 e1 e2 hp1 hp hlt hst1 hpe hm0
        go_wp2
        go_quiet (fail)
        go_wp2
        rw [Exit.noGoto_ret]
        go_ret
        exact FIN.out _ _
      · have FIN : Hid (∀ q, TakeOut G L w p (.returned (.slice (some ⟨L2.B, L.r1, none⟩) m (L2.cap - L.r1))) (w2.drewN q)) := Lib.hid fun q => by
          obtain ⟨f1, f2, f3, f4, f5⟩ := HD.out
          exact fin.out L2 m w2 f1 f2 f3 f4 f5 (.inl (by omega)) L.r1 _ q ⟨Nat.le_refl _, fun _ => rfl⟩ (by omega)
        clear d1 d2 d3 d4 d5 d6 i1 i2 i3 i4 hE hsm hI e0 e1 e2 hp1 hp hlt hst1 hpe
        go_wp2
        go_quiet (fail)
        go_wp2
        rw [Exit.noGoto_ret]
        go_ret
        exact FIN.out _
end Go.Proofs.YtlcbcgillekphaaGreatDoor.dec
namespace Go.Proofs.YtlcbcgillekphaaGreatDoor.dec
open Go.RowKit Mem rw
set_option linter.unusedVariables false

theorem breaks_snoc (l : List UInt8) (c : UInt8) : dm.breaks (l ++ [c]) = dm.breaks l + (if c = 10 then 1 else 0) := by
  unfold dm.breaks
  rw [List.countP_append]
  by_cases h : c = 10 <;> simp [h]
theorem count34 (a : Option Addr) (c : Nat) (l : List UInt8) (hl : l.length ≤ 5000) (w : World) (h : Bs w a l) :
    Calls Tryz.prog 82 #[.slice a l.length c, .int .u8 10] w fun e w' => e = .returned (.int .i64 (dm.breaks l)) ∧ w = w' := by
  obtain ⟨n, hn⟩ : ∃ n, l.length = n := ⟨_, rfl⟩
  have H := Lib.hid h
  have HN := Lib.hid hn
  have hbl := dm.breaks_le l
  rw [hn] at hl hbl ⊢
  clear h hn
  go_enter Tryz.func82, Tryz.ntmps82
  go_wp2_with fail
  go_loopw [5, 10] (fun v i wr => ∃ k b : Nat, k ≤ n ∧ b ≤ k ∧ v = .int .i64 b ∧ i = .int .i64 k ∧ w = wr ∧ Hid (dm.breaks (l.take k) = b)) (fun _ i _ => n - (intOf i).toNat)
  case atStart => exact ⟨0, 0, by omega, by omega, rfl, rfl, rfl, Lib.hid rfl⟩
  case round =>
    obtain ⟨k, b, hk, hb, rfl, rfl, rfl, HK⟩ := hrel
    by_cases hlt : k < n
    · have hkl : k < l.length := by rw [HN.out]; exact hlt
      obtain ⟨A, off, rfl, hcell⟩ := H.out.get hkl
      obtain ⟨x, hx⟩ : ∃ x, l[k] = x := ⟨_, rfl⟩
      rw [hx] at hcell
      have hs : dm.breaks (l.take (k + 1)) = b + (if x = 10 then 1 else 0) := by
        rw [List.take_succ_eq_append_getElem hkl, breaks_snoc, HK.out, hx]
      have HS := Lib.hid hs
      have hxb := x.toNat_lt
      have hlt' : (k : Int) < (n : Int) := by omega
      clear hs hx
      by_cases h10 : x = 10
      · have hx10 : (x.toNat : Int) = 10 := by rw [h10]; rfl
        have h1 := HS.out
        rw [if_pos h10] at h1
        have H1 := Lib.hid h1
        clear h1 h10
        go_wp2
        go_roundw
        case rel => exact ⟨k + 1, b + 1, by omega, by omega, by go_num, by go_num, by first | rfl | trivial, H1⟩
        case measure => simp [intOf]; omega
      · have hx10 : ¬ (x.toNat : Int) = 10 := by
          intro e
          apply h10
          apply UInt8.toNat_inj.1
          show x.toNat = 10
          omega
        have h1 := HS.out
        rw [if_neg h10] at h1
        have H1 := Lib.hid h1
        clear h1 h10
        go_wp2
        go_roundw
        case rel => exact ⟨k + 1, b, by omega, by omega, rfl, by go_num, by first | rfl | trivial, H1⟩
        case measure => simp [intOf]; omega
    · have hlt' : ¬ (k : Int) < (n : Int) := by omega
      have hf : dm.breaks l = b := by rw [← HK.out, List.take_of_length_le (by rw [HN.out]; omega)]
      have HF := Lib.hid hf
      clear hf hbl
      go_wp2
      go_ret
      rw [HF.out]
      exact ⟨rfl, rfl⟩

/-- The last LF of some bytes: its place and one more; 0: there is none. -/
def lastLF (l : List UInt8) : Nat := l.length - dm.colF l
theorem colF_take (l : List UInt8) (k : Nat) (hk : k < l.length) (h : ∀ j, k < j → (hj : j < l.length) → l[j] ≠ 10) (hc : l[k] = 10) : dm.colF l = l.length - (k + 1) := by
  have e : l = l.take k ++ 10 :: l.drop (k + 1) := by
    have := List.take_append_drop k l
    rw [List.drop_eq_getElem_cons hk, hc] at this
    exact this.symm
  conv => lhs; rw [e]
  rw [dm.colF_last _ _ (fun c hc => by
    obtain ⟨j, hj, rfl⟩ := List.getElem_of_mem hc
    rw [List.getElem_drop]
    exact h _ (by omega) _)]
  simp
theorem lastix70 (a : Option Addr) (c : Nat) (l : List UInt8) (hl : l.length ≤ 5000) (w : World) (h : Bs w a l) :
    Calls Tryz.prog 97 #[.slice a l.length c, .int .u8 10] w fun e w' => e = .returned (.int .i64 ((l.length : Int) - (dm.colF l : Int) - 1)) ∧ w = w' := by
  obtain ⟨n, hn⟩ : ∃ n, l.length = n := ⟨_, rfl⟩
  have H := Lib.hid h
  have HN := Lib.hid hn
  have hcl := dm.colF_le l
  rw [hn] at hl hcl ⊢
  clear h hn
  go_enter Tryz.func97, Tryz.ntmps97
  go_wp2_with fail
  go_loopw [5] (fun i wr => ∃ k : Nat, k ≤ n ∧ i = .int .i64 ((k : Int) - 1) ∧ w = wr ∧ Hid (∀ j, k ≤ j → (hj : j < l.length) → l[j] ≠ 10)) (fun i _ => (intOf i + 1).toNat)
  case atStart => exact ⟨n, by omega, rfl, rfl, Lib.hid (fun j h1 h2 => by have := HN.out; omega)⟩
  case round =>
    obtain ⟨k, hk, rfl, rfl, HK⟩ := hrel
    cases k with
    | zero =>
      have hf : dm.colF l = n := by rw [dm.colF_none l (fun c hc => by obtain ⟨j, hj, rfl⟩ := List.getElem_of_mem hc; exact HK.out j (by omega) hj), HN.out]
      have HF := Lib.hid hf
      clear hf hcl
      go_wp2
      go_ret
      rw [HF.out]
      exact ⟨by rw [show ((n : Int) - (n : Int) - 1) = -1 by omega]; rfl, rfl⟩
    | succ k =>
      have hkl : k < l.length := by rw [HN.out]; exact hk
      obtain ⟨A, off, rfl, hcell⟩ := H.out.get hkl
      obtain ⟨x, hx⟩ : ∃ x, l[k] = x := ⟨_, rfl⟩
      rw [hx] at hcell
      have hxb := x.toNat_lt
      have HX := Lib.hid hx
      have e1 : ((k + 1 : Nat) : Int) - 1 = (k : Int) := by omega
      rw [e1]
      have hk0 : (0 : Int) ≤ (k : Int) := by omega
      have hkn : (k : Int) < (n : Int) := by omega
      clear hx e1
      by_cases h10 : x = 10
      · have hx10 : (x.toNat : Int) = 10 := by rw [h10]; rfl
        have hf : dm.colF l = n - (k + 1) := by rw [colF_take l k hkl (fun j h1 h2 => HK.out j (by omega) h2) (by rw [HX.out, h10]), HN.out]
        have HF := Lib.hid hf
        clear h10 hf hcl
        go_wp2
        go_ret
        rw [HF.out]
        exact ⟨by rw [show ((n : Int) - ((n - (k + 1) : Nat) : Int) - 1) = (k : Int) by omega]; rfl, rfl⟩
      · have hx10 : ¬ (x.toNat : Int) = 10 := by
          intro e
          apply h10
          apply UInt8.toNat_inj.1
          show x.toNat = 10
          omega
        have h1 : ∀ j, k ≤ j → (hj : j < l.length) → l[j] ≠ 10 := fun j h1 h2 => by
          by_cases e : j = k
          · subst e; rw [HX.out]; exact h10
          · exact HK.out j (by omega) h2
        have H1 := Lib.hid h1
        clear h1 h10 hcl
        go_wp2
        go_roundw
        case rel => exact ⟨k, by omega, by go_num, by first | rfl | trivial, H1⟩
        case measure => simp [intOf]
theorem lastix62 (a : Option Addr) (c : Nat) (l : List UInt8) (hl : l.length ≤ 5000) (w : World) (h : Bs w a l) :
    Calls Tryz.prog 86 #[.slice a l.length c, .int .u8 10] w fun e w' => e = .returned (.int .i64 ((l.length : Int) - (dm.colF l : Int) - 1)) ∧ w = w' := by
  have HC := Lib.hid (lastix70 a c l hl w h)
  clear h
  go_enter Tryz.func86, Tryz.ntmps86
  go_wp2_with fail
  refine HC.out.mono ?_
  rintro e w' ⟨rfl, rfl⟩
  go_wp2
  go_ret
  exact ⟨rfl, rfl⟩
theorem new37r (s : ByteArray) (w : World) :
    Calls Tryz.prog 55 #[.string s] w fun e w' => e = .returned (.iface 119 (.pointer (some ⟨w.heap.size, 0, none⟩))) ∧ But [] w w' ∧ Rw w' w.heap.size [.string s] 121 := by
  have hb : Hid (But [] w (w.alloc (.cells #[.string s] 121))) := Lib.hid ((But.refl [] w).alloc _)
  go_enter Tryz.func55, Tryz.ntmps55
  go_wp2
  go_ret
  exact ⟨rfl, hb.out, Rw.new w _ _⟩
theorem new37 (s : ByteArray) (w : World) :
    Calls Tryz.prog 55 #[.string s] w fun e w' => e = .returned (.iface 119 (.pointer (some ⟨w.heap.size, 0, none⟩))) ∧ But [] w w' := by
  have hb : Hid (But [] w (w.alloc (.cells #[.string s] 121))) := Lib.hid ((But.refl [] w).alloc _)
  go_enter Tryz.func55, Tryz.ntmps55
  go_wp2
  go_ret
  exact ⟨rfl, hb.out⟩
end Go.Proofs.YtlcbcgillekphaaGreatDoor.dec
