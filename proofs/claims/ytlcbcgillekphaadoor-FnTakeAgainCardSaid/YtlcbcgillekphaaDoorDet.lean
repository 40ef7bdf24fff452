/-
  Proved: the contract of the decoder's take.
  Conditions: a decoder in memory, a set of bytes beside it.
-/
import Derived.Test.YtlcbcgillekphaaDoorDeq
import Derived.Deep.LoopGhost
namespace Go.Proofs.YtlcbcgillekphaaDoor.dec
open Go.RowKit Mem rw
set_option linter.unusedVariables false

/-- What a step leaves of a decoder's lay, its lines and its escape buffer too. -/
structure Sm (L L' : Lay) (n : Nat) : Prop where
  base : L'.base = L.base
  r0 : L'.r0 = L.r0
  r1 : L'.r1 = L.r1 + n
  sec : L'.sec = L.sec
  sk : L'.sk = L.sk
  line : L'.line = L.line
  esc : L'.esc = L.esc
  E : L'.E = L.E
  ecap : L'.ecap = L.ecap
theorem Sm.refl (L : Lay) : Sm L L 0 := ⟨rfl, rfl, rfl, rfl, rfl, rfl, rfl, rfl, rfl⟩
theorem Sm.trans {L L1 L2 : Lay} {n m : Nat} (a : Sm L L1 n) (b : Sm L1 L2 m) : Sm L L2 (n + m) :=
  ⟨b.base.trans a.base, b.r0.trans a.r0, by rw [b.r1, a.r1]; omega, b.sec.trans a.sec, b.sk.trans a.sk, b.line.trans a.line, b.esc.trans a.esc, b.E.trans a.E, b.ecap.trans a.ecap⟩
theorem Ens.sm {L L' : Lay} (h : Ens L L') : Sm L L' 0 := ⟨h.base, h.r0, h.r1, h.sec, h.sk, h.line, h.esc, h.E, h.ecap⟩
theorem Sm.fwd (L : Lay) (n : Nat) : Sm L (L.fwd n) n := ⟨rfl, rfl, rfl, rfl, rfl, rfl, rfl, rfl, rfl⟩
theorem Sm.pos {L L' : Lay} {n : Nat} (h : Sm L L' n) : L'.pos = L.pos + n := by unfold Lay.pos; rw [h.base, h.r1]; omega
theorem Sm.mv {L L' : Lay} {n : Nat} (h : Sm L L' n) (hn : L'.nb = false) : Mv L L' n := ⟨h.base, h.r0, h.r1, hn, h.sec, h.sk⟩
/-- The first n bytes from pos on are of a set. -/
def Run (T : List UInt8) (p : UInt8 → Bool) (a n : Nat) : Prop := ∀ j, j < n → a + j < T.length ∧ p (T.getD (a + j) 0) = true
theorem Run.zero (T : List UInt8) (p : UInt8 → Bool) (a : Nat) : Run T p a 0 := fun j hj => by omega
theorem Run.one {T : List UInt8} {p : UInt8 → Bool} {a n : Nat} (h : Run T p a n) (hl : a + n < T.length) (hp : p (T.getD (a + n) 0) = true) : Run T p a (n + 1) := fun j hj => by
  by_cases e : j = n
  · subst e; exact ⟨hl, hp⟩
  · exact h j (by omega)
theorem takeWhile_run (p : UInt8 → Bool) : ∀ (n : Nat) (l : List UInt8), (∀ j, j < n → j < l.length ∧ p (l.getD j 0) = true) → (n = l.length ∨ p (l.getD n 0) = false) → (l.takeWhile p).length = n
  | 0, [], _, _ => rfl
  | 0, c :: t, _, h => by
    rcases h with h | h
    · simp at h
    · have : p c = false := by simpa using h
      simp [List.takeWhile, this]
  | n + 1, [], h, _ => by have := (h 0 (by omega)).1; simp at this
  | n + 1, c :: t, h, h2 => by
    have hc : p c = true := by simpa using (h 0 (by omega)).2
    rw [List.takeWhile_cons_of_pos hc, List.length_cons, takeWhile_run p n t (fun j hj => by have := h (j + 1) (by omega); simpa using this) (by simpa using h2)]
theorem Run.runN {T : List UInt8} {p : UInt8 → Bool} {a n : Nat} (h : Run T p a n) (he : a + n = T.length ∨ (a + n < T.length ∧ p (T.getD (a + n) 0) = false)) (ha : a ≤ T.length) : dm.runN p (T.drop a) = n := by
  unfold dm.runN
  have hg : ∀ j, (T.drop a).getD j 0 = T.getD (a + j) 0 := fun j => by simp [List.getD_eq_getElem?_getD, List.getElem?_drop]
  refine takeWhile_run p n _ (fun j hj => ?_) ?_
  · have := h j hj
    rw [hg, List.length_drop]
    exact ⟨by omega, this.2⟩
  · rw [hg, List.length_drop]
    rcases he with e | e
    · exact .inl (by omega)
    · exact .inr e.2
/-- What take leaves. -/
def TakeOut (G : Cfg) (L : Lay) (w : World) (p : UInt8 → Bool) (e : Ending) (w' : World) : Prop :=
  ∃ (a : Option Addr) (n c : Nat), e = .returned (.slice a n c) ∧ Hid (n = dm.runN p (G.T.drop L.pos) ∧ ∃ L', DL G L' w' ∧ Go G L w L' w' ∧ Sm L L' n ∧ Av G L' 1 ∧ Held G L' w' a ((G.T.drop L.pos).take n))
def r1of (G : Cfg) (w : World) : Nat := match w.cell? ⟨G.D, 3, none⟩ with | some (.int _ a) => a.toNat | _ => 0
theorem r1of_eq {G : Cfg} {L : Lay} {w : World} (h : DL G L w) : r1of G w = L.r1 := by
  unfold r1of
  rw [h.cells.2.2.2.1]
  simp
theorem take_fin {G : Cfg} {L L1 : Lay} {w wr : World} {p : UInt8 → Bool} {m : Nat} (h0 : DL G L w) (h : DL G L1 wr) (g : Go G L w L1 wr) (s : Sm L L1 m) (hr : Run G.T p L.pos m) (ha : Av G L1 1)
    (he : L.pos + m = G.T.length ∨ (L.pos + m < G.T.length ∧ p (G.T.getD (L.pos + m) 0) = false)) (x c q : Nat) (hx : x ≤ L.r1 ∧ (m ≠ 0 → x = L.r1)) :
    TakeOut G L w p (.returned (.slice (some ⟨L1.B, x, none⟩) m c)) (wr.drewN q) := by
  have hp : L.pos = L.base + L.r1 := rfl
  have hle : L.pos ≤ G.T.length := by have := h0.blen; have := h0.r1l; omega
  have hn : m = dm.runN p (G.T.drop L.pos) := (hr.runN he hle).symm
  refine ⟨_, m, c, rfl, Lib.hid ⟨hn, L1, h.drewN q, g.trans h0 (Go.drewN G L1 wr q), s, ha, ?_⟩⟩
  have hb := h.buf ha.1
  have e1 := s.base
  have e2 := s.r1
  have e3 := h.r1l
  have e4 := h.blen
  have hl : ((G.T.drop L.pos).take m).length = m := by rw [List.length_take, List.length_drop]; omega
  refine ⟨.inr ⟨_, _, rfl, fun j y hy => ?_⟩, fun A off e => ?_⟩
  · have hj : j < m := by have := (List.getElem?_eq_some_iff.1 hy).1; omega
    rw [List.getElem?_take, if_pos hj, List.getElem?_drop] at hy
    have := h.byte ha.1 (j := L.r1 + j) (by omega)
    rw [show (wr.drewN q).cell? _ = wr.cell? _ from rfl, hx.2 (by omega), this, show L1.base + (L.r1 + j) = L.pos + j by omega, List.getD_eq_getElem?_getD, hy]
    rfl
  · cases e
    refine ⟨hb.1.lt, .inl ⟨ha.1, rfl, by omega⟩⟩
set_option maxRecDepth 100000 in
set_option maxHeartbeats 1000000 in
theorem take30 (G : Cfg) (hG : Base G) (L : Lay) (w : World) (h : DL G L w) (SB : Nat) (f : Nat → Bool) (p : UInt8 → Bool) (hfp : ∀ c : UInt8, f c.toNat = p c) (hS : set.SetAt w SB f) (hSo : SB ∉ own G L) :
    Calls Tryd.prog 30 #[.pointer (some ⟨G.D, 0, none⟩), .pointer (some ⟨SB, 0, none⟩)] w (TakeOut G L w p) := by
  obtain ⟨c0, c1, c2, c3, c4, c5, c6, c7, c8, c9⟩ := h.cells
  have hl := h.lenle hG
  have h1l := h.r1l
  have h01 := h.r01
  have hbl := h.blen
  obtain ⟨st, hst⟩ : ∃ st, L.r1 - L.r0 = st := ⟨_, rfl⟩
  have hw : IntKind.i64.wrap ((L.r1 : Int) - (L.r0 : Int)) = (st : Int) := by rw [IntKind.wrap_i64]; omega
  obtain ⟨n0, hn0⟩ : ∃ n0, G.T.length - L.pos = n0 := ⟨_, rfl⟩
  have HL := Lib.hid h
  have HS := Lib.hid (show set.SetAt w SB f ∧ SB ∉ own G L from ⟨hS, hSo⟩)
  have HFP := Lib.hid hfp
  have HST := Lib.hid (show L.r0 + st = L.r1 by omega)
  have HN0 := Lib.hid hn0
  have HT := Lib.hid hG.tlen
  have HG := Lib.hid hG
  clear h hS hfp hst hSo hn0 hG hbl
  go_enter Tryd.func30, Tryd.ntmps30
  go_wp2
  go_step3
  go_wp2
  go_quiet (fail)
  go_wp2_with fail
  go_step3
  go_wp2_with fail
  have fin : Hid (∀ L1 m wr, DL G L1 wr → Go G L w L1 wr → Sm L L1 m → Run G.T p L.pos m → Av G L1 1 → (L.pos + m = G.T.length ∨ (L.pos + m < G.T.length ∧ p (G.T.getD (L.pos + m) 0) = false)) → ∀ (x c q : Nat), (x ≤ L.r1 ∧ (m ≠ 0 → x = L.r1)) →
    TakeOut G L w p (.returned (.slice (some ⟨L1.B, x, none⟩) m c)) (wr.drewN q)) := Lib.hid fun L1 m wr a b cc d e f x c q h => take_fin HL.out a b cc d e f x c q h
  go_loopg [6] n0 (fun g s6 wr => ∃ L1 m, m + g = n0 ∧ Hid (DL G L1 wr ∧ Go G L w L1 wr ∧ Sm L L1 m ∧ Run G.T p L.pos m))
  case atStart => exact ⟨L, 0, by omega, Lib.hid ⟨HL.out.drewN nq, Go.drewN G L w nq, Sm.refl L, Run.zero _ _ _⟩⟩
  case round =>
    obtain ⟨L1, m, hmg, hI⟩ := hrel
    have HE := Lib.hid (ens1 G HG.out L1 wr hI.out.1)
    clear c0 c1 c2 c3 c4 c5 c6 c7 c8 c9
    go_wp2_with fail
    refine HE.out.mono ?_
    rintro e w2 ⟨he, hE⟩
    obtain ⟨L2, d1, d2, d3, d4, d5, d6⟩ := hE.out
    obtain ⟨i1, i2, i3, i4⟩ := hI.out
    have HD := Lib.hid (show DL G L2 w2 ∧ Go G L w L2 w2 ∧ Sm L L2 m ∧ Run G.T p L.pos m ∧ Av G L2 1 from ⟨d1, i2.trans HL.out d2, by simpa using i3.trans d3.sm, i4, d4⟩)
    have hsm := HD.out.2.2.1
    obtain ⟨c0, c1, c2, c3, c4, c5, c6, c7, c8, c9⟩ := d1.cells
    rw [bufv_of d4.1] at c1
    have hb2 := d1.blen
    have hl2 := d1.lenle HG.out
    have h2l := d1.r1l
    have e1 := hsm.base
    have e2 := hsm.r1
    have e0 := hsm.r0
    have hp1 := i3.pos
    have hp : L.pos = L.base + L.r1 := rfl
    have hcap := (d1.buf d4.1).1.le
    rw [d1.blen'] at hcap
    have hst1 := HST.out
    have hw0 : IntKind.i64.wrap ((L2.r0 : Int) + (st : Int)) = ((L.r1 : Nat) : Int) := by rw [IntKind.wrap_i64]; omega
    by_cases hlt : L1.pos + 1 ≤ G.T.length
    · rw [show decide (L1.pos + 1 ≤ G.T.length) = true by simpa using hlt] at he
      subst he
      have hr2 := d5 hlt
      obtain ⟨bl, hbl⟩ : ∃ bl, L2.len - L2.r1 = bl := ⟨_, rfl⟩
      have hwb : ((L2.len : Int) - (L2.r1 : Int)) = (bl : Int) := by omega
      have hcl : ¬ L2.cap = L2.r1 := by omega
      have hle1 : (L2.r1 : Int) ≤ (L2.len : Int) := by omega
      have HPUT : Hid (∀ (q j : Nat), j ≤ bl → DL G (L2.fwd j) ((w2.drewN q).setCell ⟨G.D, 3, none⟩ (.int .i64 ((L2.r1 : Int) + (j : Int)))) ∧ Go G L w (L2.fwd j) ((w2.drewN q).setCell ⟨G.D, 3, none⟩ (.int .i64 ((L2.r1 : Int) + (j : Int))))) := Lib.hid fun q j hj => by
        obtain ⟨d1, d2, d3, d4, d5⟩ := HD.out
        have hp := (d1.drewN q).put (L' := L2.fwd j) 3 (.int .i64 ((L2.r1 : Int) + (j : Int))) (by
          have e : ((L2.r1 + j : Nat) : Int) = (L2.r1 : Int) + (j : Int) := by omega
          unfold Lay.cells
          simp only [Lay.fwd, e]
          rfl) ⟨rfl, rfl, rfl, rfl, rfl, rfl, rfl, rfl, rfl, rfl⟩ (fun e => (by rw [show (L2.fwd j).nb = L2.nb from rfl, d5.1] at e; cases e)) (by have := d1.r01; show L2.r0 ≤ L2.r1 + j; omega) (by show L2.r1 + j ≤ L2.len; omega) d1.line HG.out
        exact ⟨hp.1, (d2.trans HL.out (Go.drewN G L2 w2 q)).trans HL.out hp.2⟩
      have HQ := Lib.hid (show L2.base = L.base ∧ L2.r1 = L.r1 + m ∧ L2.r0 = L.r0 ∧ L1.pos = L.pos + m ∧ L.pos = L.base + L.r1 from ⟨e1, e2, e0, hp1, hp⟩)
      have z3 : w2.frozen? ⟨G.D, 3, none⟩ = false := Rw.fz d1.row 3
      have hr1b : (L2.r1 : Int) ≤ 4000 := by omega
      have hblb : bl ≤ 4000 := by omega
      have hbl1 : 1 ≤ bl := by omega
      clear d1 d2 d3 d4 d5 d6 i1 i2 i3 i4 hE hsm hI e0 e1 e2 hp1 hp hlt hst1
      go_wp2
      go_quiet (fail)
      go_wp2_with fail
      obtain ⟨gO, hgO⟩ : ∃ gO, gO = gk := ⟨_, rfl⟩
      go_loopg [32] bl (fun g2 s32 wy => ∃ j : Nat, j + g2 = bl ∧ s32 = .int .i64 j ∧ w2.drewN nq = wy ∧ Hid (Run G.T p L.pos (m + j)))
      case atStart => exact ⟨0, by omega, rfl, rfl, Lib.hid (by obtain ⟨d1, d2, d3, d4, d5⟩ := HD.out; simpa using d4)⟩
      case round =>
        obtain ⟨j, hjg, rfl, rfl, HR⟩ := hrel
        cases gk with
        | zero =>
          have hjz : ¬ (j : Int) < (bl : Int) := by omega
          have hjb : j = bl := by omega
          have hk : gO - bl < gO := by
            obtain ⟨q1, q2, q3, q4, q5⟩ := HQ.out
            have := HN0.out
            omega
          have HREL : Hid (m + bl + (gO - bl) = n0 ∧ (DL G (L2.fwd bl) ((w2.drewN nq).setCell ⟨G.D, 3, none⟩ (.int .i64 ((L2.r1 : Int) + (bl : Int)))) ∧ Go G L w (L2.fwd bl) ((w2.drewN nq).setCell ⟨G.D, 3, none⟩ (.int .i64 ((L2.r1 : Int) + (bl : Int)))) ∧ Sm L (L2.fwd bl) (m + bl) ∧ Run G.T p L.pos (m + bl))) := Lib.hid (by
            obtain ⟨d1, d2, d3, d4, d5⟩ := HD.out
            obtain ⟨q1, q2, q3, q4, q5⟩ := HQ.out
            refine ⟨by have := HN0.out; omega, (HPUT.out nq bl (Nat.le_refl _)).1, (HPUT.out nq bl (Nat.le_refl _)).2, d3.trans (Sm.fwd L2 bl), by rw [← hjb]; exact HR.out⟩)
          have hgk := hgO
          clear hjb
          go_wp2
          go_roundg (gO - bl)
          case measure => omega
          case rel => exact ⟨L2.fwd bl, m + bl, HREL.out.1, Lib.hid HREL.out.2⟩
        | succ g2 =>
          have hjz : (j : Int) < (bl : Int) := by omega
          obtain ⟨d1, d2, d3, d4, d5⟩ := HD.out
          obtain ⟨q1, q2, q3, q4, q5⟩ := HQ.out
          have hcell := d1.byte d5.1 (j := L2.r1 + j) (by omega)
          have hpc : G.T.getD (L2.base + (L2.r1 + j)) 0 = G.T.getD (L.pos + (m + j)) 0 := by rw [show L2.base + (L2.r1 + j) = L.pos + (m + j) by omega]
          rw [hpc] at hcell
          have hlt : L.pos + (m + j) < G.T.length := by have := d1.blen; omega
          have hS2 := set.SetAt.but HS.out.1 (d2.but) HS.out.2
          have hG33 : ∀ c : UInt8, Calls Tryd.prog 33 #[.pointer (some ⟨SB, 0, none⟩), .int .u8 c.toNat] (w2.drewN nq) fun e w' => e = .returned (.bool (f c.toNat)) ∧ w2.drewN nq = w' := fun c => set.get33 SB f c _ hS2
          obtain ⟨c, hc⟩ : ∃ c, G.T.getD (L.pos + (m + j)) 0 = c := ⟨_, rfl⟩
          rw [hc] at hcell
          have hcb := c.toNat_lt
          have HC := Lib.hid (hG33 c)
          have hfc := HFP.out c
          rw [hfc] at HC
          clear hG33 hS2 d1 d2 d3 d4 hpc hfc
          cases hpp : p c with
          | true =>
            rw [hpp] at HC
            have HR1 : Hid (Run G.T p L.pos (m + (j + 1))) := Lib.hid (HR.out.one hlt (by rw [hc]; exact hpp))
            clear q1 q2 q3 q4 q5 hpp hc hlt d5
            go_wp2_with fail
            refine HC.out.mono ?_
            rintro e w4 ⟨rfl, rfl⟩
            go_wp2
            go_roundg g2
            case measure => omega
            case rel => exact ⟨j + 1, by omega, by go_num, rfl, HR1⟩
          | false =>
            rw [hpp] at HC
            obtain ⟨w4, hw4⟩ : ∃ w4, (w2.drewN nq).setCell ⟨G.D, 3, none⟩ (.int .i64 ((L2.r1 : Int) + (j : Int))) = w4 := ⟨_, rfl⟩
            have hP4 := HPUT.out nq j (by omega)
            rw [hw4] at hP4
            obtain ⟨k0, k1, k2, k3, k4, k5, k6, k7, k8, k9⟩ := hP4.1.cells
            obtain ⟨hi, hhi⟩ : ∃ hi, L2.r1 + j = hi := ⟨_, rfl⟩
            obtain ⟨mj, hmj⟩ : ∃ mj, hi - L.r1 = mj := ⟨_, rfl⟩
            rw [bufv_of (show (L2.fwd j).nb = false from d5.1)] at k1
            have k1' : w4.cell? ⟨G.D, 1, none⟩ = some (.slice (some ⟨L2.B, 0, none⟩) L2.len L2.cap) := k1
            have k2' : w4.cell? ⟨G.D, 2, none⟩ = some (.int .i64 (L2.r0 : Int)) := k2
            have k3' : w4.cell? ⟨G.D, 3, none⟩ = some (.int .i64 (hi : Int)) := by rw [← hhi]; exact k3
            have hcl2 : ¬ L2.cap = L.r1 := by omega
            have hlh : (L.r1 : Int) ≤ (hi : Int) := by omega
            have hhc : (hi : Int) ≤ (L2.cap : Int) := by omega
            have FIN : Hid (∀ q, TakeOut G L w p (.returned (.slice (some ⟨L2.B, L.r1, none⟩) mj (L2.cap - L.r1))) (w4.drewN q)) := Lib.hid fun q => by
              have hav : Av G (L2.fwd j) 1 := ⟨d5.1, by show min (L2.base + (L2.r1 + j) + 1) G.T.length ≤ L2.base + L2.len; omega⟩
              have hmm : mj = m + j := by omega
              subst hmm
              exact fin.out (L2.fwd j) (m + j) w4 hP4.1 hP4.2 ((HD.out.2.2.1).trans (Sm.fwd L2 j)) HR.out hav (.inr ⟨hlt, by rw [hc]; exact hpp⟩) L.r1 _ q ⟨Nat.le_refl _, fun _ => rfl⟩
            clear k0 k1 k2 k3 k4 k5 k6 k7 k8 k9 hP4 q1 q2 q3 q4 q5 hpp hc hlt d5 hhi
            go_wp2_with fail
            refine HC.out.mono ?_
            rintro e w5 ⟨rfl, rfl⟩
            go_wp2
            clear hw4 hcell c1 c2 c3 c0 c4 c5 c6 c7 c8 c9
            go_quiet (fail)
            go_wp2
            rw [Exit.noGoto_ret]
            go_ret
            exact FIN.out _
    · rw [show decide (L1.pos + 1 ≤ G.T.length) = false by simpa using hlt] at he
      subst he
      have hpe : L1.pos = G.T.length := by have := i1.blen; have := i1.r1l; unfold Lay.pos at *; omega
      have hln : L2.r1 - L.r1 = m := by omega
      have hlh : (L.r1 : Int) ≤ (L2.r1 : Int) := by omega
      have hhc : (L2.r1 : Int) ≤ (L2.cap : Int) := by omega
      by_cases hcl2 : L2.cap = L.r1
      · have hm0 : m = 0 := by omega
        have FIN : Hid (∀ c q, TakeOut G L w p (.returned (.slice (some ⟨L2.B, 0, none⟩) m c)) (w2.drewN q)) := Lib.hid fun c q => by
          obtain ⟨f1, f2, f3, f4, f5⟩ := HD.out
          exact fin.out L2 m w2 f1 f2 f3 f4 f5 (.inl (by omega)) 0 _ q ⟨Nat.zero_le _, fun h => absurd hm0 h⟩
        clear d1 d2 d3 d4 d5 d6 i1 i2 i3 i4 hE hsm hI e0 e1 e2 hp1 hp hlt hst1 hpe hm0
        go_wp2
        go_quiet (fail)
        go_wp2
        rw [Exit.noGoto_ret]
        go_ret
        exact FIN.out _ _
      · have FIN : Hid (∀ q, TakeOut G L w p (.returned (.slice (some ⟨L2.B, L.r1, none⟩) m (L2.cap - L.r1))) (w2.drewN q)) := Lib.hid fun q => by
          obtain ⟨f1, f2, f3, f4, f5⟩ := HD.out
          exact fin.out L2 m w2 f1 f2 f3 f4 f5 (.inl (by omega)) L.r1 _ q ⟨Nat.le_refl _, fun _ => rfl⟩
        clear d1 d2 d3 d4 d5 d6 i1 i2 i3 i4 hE hsm hI e0 e1 e2 hp1 hp hlt hst1 hpe
        go_wp2
        go_quiet (fail)
        go_wp2
        rw [Exit.noGoto_ret]
        go_ret
        exact FIN.out _
end Go.Proofs.YtlcbcgillekphaaDoor.dec
