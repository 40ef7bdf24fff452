/-
  Proved: the contract of the decoder's takeEsc.
  Conditions: a decoder in memory, a set of bytes and a table of escapes beside it.
-/
import Derived.Test.YtlcbcgillekphaaGreatDoorDey
namespace Go.Proofs.YtlcbcgillekphaaGreatDoor.dec
open Go.RowKit Mem rw
set_option linter.unusedVariables false
set_option linter.unusedSimpArgs false

/-- A table of escapes lies beside the decoder. -/
structure Tab (G : Cfg) (L : Lay) (w : World) (EB : Nat) (r : UInt8 → UInt8) : Prop where
  row : ∃ l T, Rw w EB l T ∧ ∀ c : UInt8, l[256 + c.toNat]? = some (.int .u8 ((r c).toNat : Int))
  own : EB ∉ own G L
theorem Tab.cell {G : Cfg} {L : Lay} {w : World} {EB : Nat} {r : UInt8 → UInt8} (h : Tab G L w EB r) (c : UInt8) : w.cell? ⟨EB, 256 + c.toNat, none⟩ = some (.int .u8 ((r c).toNat : Int)) := by
  obtain ⟨l, T, h1, h2⟩ := h.row
  rw [Rw.cell h1]; exact h2 c
theorem Tab.step {G : Cfg} {L L' : Lay} {w w' : World} {EB : Nat} {r : UInt8 → UInt8} (h : Tab G L w EB r) (s : Step G L w L' w') : Tab G L' w' EB r := by
  obtain ⟨l, T, h1, h2⟩ := h.row
  obtain ⟨k1, k2⟩ := s.keep h1 h.own
  exact ⟨⟨l, T, k1, h2⟩, k2⟩
/-- A set lies beside the decoder. -/
structure SetB (G : Cfg) (L : Lay) (w : World) (SB : Nat) (P : UInt8 → Bool) : Prop where
  row : ∃ f, set.SetAt w SB f ∧ ∀ c : UInt8, f c.toNat = P c
  own : SB ∉ own G L
theorem SetB.step {G : Cfg} {L L' : Lay} {w w' : World} {SB : Nat} {P : UInt8 → Bool} (h : SetB G L w SB P) (s : Step G L w L' w') : SetB G L' w' SB P := by
  obtain ⟨f, h1, h2⟩ := h.row
  obtain ⟨k1, k2⟩ := s.keep h1 h.own
  exact ⟨⟨f, k1, h2⟩, k2⟩
theorem SetB.get {G : Cfg} {L : Lay} {w : World} {SB : Nat} {P : UInt8 → Bool} (h : SetB G L w SB P) (c : UInt8) :
    Calls Tryz.prog 58 #[.pointer (some ⟨SB, 0, none⟩), .int .u8 c.toNat] w fun e w' => e = .returned (.bool (P c)) ∧ w = w' := by
  obtain ⟨f, h1, h2⟩ := h.row
  rw [← h2 c]
  exact set.get33 SB f c w h1

theorem TE.quiet {G : Cfg} {L : Lay} {w : World} {P : UInt8 → Bool} {r : UInt8 → UInt8} {L2 : Lay} {w2 w3 : World} {su n : Nat} (h0 : DL G L w) (h : TE G L w P r L2 w2 su n) (hb : But [] w2 w3) : TE G L w P r L2 w3 su n :=
  ⟨(h.dl.quiet hb).1, h.go.trans h0 (h.dl.quiet hb).2, h.se, h.ei, h.av⟩
/-- What a token leaves of a decoder's lay. -/
structure St (L L' : Lay) (n b : Nat) : Prop where
  base : L'.base = L.base
  r0 : L'.r0 = L.r0
  r1 : L'.r1 = L.r1 + n
  sec : L'.sec = L.sec
  sk : L'.sk = L.sk
  line : L'.line = L.line + b
/-- The lines that a token counts. -/
def brk (G : Cfg) (L : Lay) (P : UInt8 → Bool) (n : Nat) : Nat := if P 10 = true then dm.breaks (sub G.T L.pos (L.pos + n)) else 0
/-- .. behind the count of its lines; what was taken lies at A. -/
structure TL (G : Cfg) (L : Lay) (w : World) (P : UInt8 → Bool) (r : UInt8 → UInt8) (L2 : Lay) (w2 : World) (su n : Nat) (A x0 : Nat) : Prop where
  dl : DL G L2 w2
  go : Go G L w L2 w2
  st : St L L2 n (brk G L P n)
  ei : ∃ o, dm.tokL P r (G.T.drop L.pos) = (o, n) ∧ EI G L L2 (L.frm + su) (L.pos + n) o
  av : Av G L2 1
  held : Held G L2 w2 (some ⟨A, x0, none⟩) (sub G.T L.pos (L.pos + n))
/-- What a token says. -/
def cont (G : Cfg) (L : Lay) (o : List UInt8) (n : Nat) : List UInt8 := if L.sk = true then sub G.T L.pos (L.pos + n) else o
/-- .. behind its text's laying. -/
structure TF (G : Cfg) (L : Lay) (w : World) (P : UInt8 → Bool) (r : UInt8 → UInt8) (L2 : Lay) (w2 : World) (o : List UInt8) (n : Nat) (A x0 k : Nat) : Prop where
  dl : DL G L2 w2
  go : Go G L w L2 w2
  st : St L L2 n (brk G L P n)
  tok : dm.tokL P r (G.T.drop L.pos) = (o, n)
  esc : L2.esc.length ≤ L.esc.length + n
  av : Av G L2 1
  len : (cont G L o n).length = k
  held : Held G L2 w2 (some ⟨A, x0, none⟩) (cont G L o n)
theorem TF.quiet {G : Cfg} {L : Lay} {w : World} {P : UInt8 → Bool} {r : UInt8 → UInt8} {L2 : Lay} {w2 w3 : World} {o : List UInt8} {n A x0 k : Nat} (h0 : DL G L w) (h : TF G L w P r L2 w2 o n A x0 k) (hb : But [] w2 w3) : TF G L w P r L2 w3 o n A x0 k :=
  ⟨(h.dl.quiet hb).1, h.go.trans h0 (h.dl.quiet hb).2, h.st, h.tok, h.esc, h.av, h.len, h.held.go h.dl (h.dl.quiet hb).2⟩
/-- What takeEsc leaves. -/
structure Escd (G : Cfg) (L : Lay) (w : World) (P : UInt8 → Bool) (r : UInt8 → UInt8) (L' : Lay) (w' : World) (o : List UInt8) (m : Nat) (a : Option Addr) (n : Nat) (v : Value) : Prop where
  dl : DL G L' w'
  go : Go G L w L' w'
  base : L'.base = L.base
  r0 : L'.r0 = L.r0
  r1 : L'.r1 = L.r1 + m
  sk : L'.sk = L.sk
  line : L'.line = L.line + brk G L P m
  tok : dm.tokL P r (G.T.drop L.pos) = (o, m)
  esc : L'.esc.length ≤ L.esc.length + m
  av : Av G L' 1
  len : (cont G L o m).length = n
  held : Held G L' w' a (cont G L o m)
  err : (utf.V (cont G L o m) = true ∧ v = .nilIface ∧ L'.sec = L.sec) ∨ (utf.V (cont G L o m) = false ∧ L'.sec = L.bad.sec ∧ ErrAt G L' w' v ((L'.line : Int) - (dm.breaks (sub G.T L.pos (L.pos + m)) : Int)) ((dm.colF (sub G.T L.frm L.pos) : Int) + 1))
def EscOut (G : Cfg) (L : Lay) (w : World) (P : UInt8 → Bool) (r : UInt8 → UInt8) (e : Ending) (w' : World) : Prop :=
  ∃ (a : Option Addr) (n c : Nat) (v : Value), e = .returned (.tuple #[.slice a n c, .int .i64 ((L.r1 - L.r0 : Nat) : Int), v]) ∧ Hid (∃ L' o m, Escd G L w P r L' w' o m a n v)

theorem tabs_below {g3 g4 B : Nat} {w w' : World} (h : Lib.Utf8Tabs g3 g4 w) (hb : Below B w w') (h3 : g3 < B) (h4 : g4 < B) : Lib.Utf8Tabs g3 g4 w' :=
  ⟨fun c hc => (World.cell?_of_block (hb.block g3 h3)).trans (h.1 c hc), fun i hi => ⟨(World.cell?_of_block (hb.block g4 h4)).trans (h.2 i hi).1, (World.cell?_of_block (hb.block g4 h4)).trans (h.2 i hi).2⟩⟩
theorem Base.tabs' {G : Cfg} (hG : Base G) {w : World} (hb : Below G.w0.heap.size G.w0 w) : Lib.Utf8Tabs 2 3 w :=
  tabs_below hG.tabs hb (block_lt_of_cell (hG.tabs.1 0 (by omega))) (block_lt_of_cell (hG.tabs.2 0 (by omega)).1)
theorem Held.src {G : Cfg} {L : Lay} {w : World} {A x : Nat} {l : List UInt8} (h : Held G L w (some ⟨A, x, none⟩) l) : utf.Src w A x ⟨l.toArray⟩ := fun j hj => by
  have hj' : j < l.length := by simpa [ByteArray.size] using hj
  rcases h.bytes with ⟨h1, h2⟩ | ⟨A', off, h1, h2⟩
  · cases h1
  · cases h1
    have := h2 j l[j] (List.getElem?_eq_getElem hj')
    rw [this]
    congr 3
    simp [ByteArray.get!, hj']
set_option maxRecDepth 1000000 in
set_option maxHeartbeats 4000000 in
theorem esc27 (G : Cfg) (hG : Base G) (L : Lay) (w : World) (h : DL G L w) (SB EB : Nat) (P : UInt8 → Bool) (r : UInt8 → UInt8) (hS : SetB G L w SB P) (hE : Tab G L w EB r) (hel : L.esc.length ≤ 50000) (hln : L.line ≤ 500000) :
    Calls Tryz.prog 51 #[.pointer (some ⟨G.D, 0, none⟩), .pointer (some ⟨SB, 0, none⟩), .pointer (some ⟨EB, 256, none⟩)] w (EscOut G L w P r) := by
  obtain ⟨c0, c1, c2, c3, c4, c5, c6, c7, c8, c9⟩ := h.cells
  have hl := h.lenle hG
  have h1l := h.r1l
  have h01 := h.r01
  have hbl := h.blen
  obtain ⟨st, hst⟩ : ∃ st, L.r1 - L.r0 = st := ⟨_, rfl⟩
  have hw : IntKind.i64.wrap ((L.r1 : Int) - (L.r0 : Int)) = (st : Int) := by rw [IntKind.wrap_i64]; omega
  obtain ⟨n0, hn0⟩ : ∃ n0, G.T.length - L.pos = n0 := ⟨_, rfl⟩
  have HL := Lib.hid h
  have HS := Lib.hid hS
  have HE := Lib.hid hE
  have HST := Lib.hid (show L.r0 + st = L.r1 ∧ L.pos = L.base + L.r1 ∧ L.frm = L.base + L.r0 ∧ L.frm + st = L.pos ∧ L.pos ≤ G.T.length by unfold Lay.frm Lay.pos; refine ⟨by omega, rfl, rfl, by omega, by omega⟩)
  have HN0 := Lib.hid hn0
  have HT := Lib.hid hG.tlen
  have HG := Lib.hid hG
  have HX := Lib.hid (And.intro hel hln)
  clear h hS hE hst hn0 hG hbl hel hln
  go_enter Tryz.func51, Tryz.ntmps51
  go_wp2
  go_step3
  go_wp2
  go_quiet (fail)
  go_wp2_with fail
  go_step3
  go_step
  go_step
  go_step
  go_cut [10] from 32 to 168 (fun s10 wx => ∃ (su n : Nat) (L3 : Lay), s10 = .int .i64 su ∧ Hid (TE G L w P r L3 wx su n))
  case first =>
    as_aux_lemma =>
    go_wp2_with fail
    clear c0 c1 c2 c3 c4 c5 c6 c7 c8 c9
    go_loopg [10] n0 (fun g s10 wr => ∃ (su m : Nat) (L1 : Lay), m + g = n0 ∧ s10 = .int .i64 su ∧ Hid (DL G L1 wr ∧ Go G L w L1 wr ∧ Se L L1 m ∧ ∃ o, dm.Tk P r G.T L.pos (L.pos + m) o ∧ EI G L L1 (L.frm + su) (L.pos + m) o))
    case atStart => exact ⟨st, 0, L, by omega, rfl, Lib.hid ⟨HL.out.drewN nq, Go.drewN G L w nq, Se.refl L, [], dm.Tk.start _ _ _ _ HST.out.2.2.2.2, by rw [HST.out.2.2.2.1]; exact EI.start G L⟩⟩
    case round =>
      obtain ⟨su, m, L1, hmg, rfl, hI⟩ := hrel
      have HE1 := Lib.hid (ens1 G HG.out L1 wr hI.out.1)
      go_wp2_with fail
      refine HE1.out.mono ?_
      rintro e w2 ⟨he, hE⟩
      obtain ⟨L2, d1, d2, d3, d4, d5, d6⟩ := hE.out
      obtain ⟨i1, i2, i3, o1, i4, i5⟩ := hI.out
      have hTM : TM G L w P r L2 w2 su m 0 := ⟨d1, i2.trans HL.out d2, by simpa using i3.trans d3.sm.se, ⟨o1, i4, i5.same d3.esc⟩, d4, by have := d1.r1l; omega⟩
      have HM := Lib.hid hTM
      have hp1 := i3.pos
      by_cases hlt : L1.pos + 1 ≤ G.T.length
      · rw [show decide (L1.pos + 1 ≤ G.T.length) = true by simpa using hlt] at he
        subst he
        have hr2 := d5 hlt
        obtain ⟨c0, c1, c2, c3, c4, c5, c6, c7, c8, c9⟩ := d1.cells
        rw [bufv_of d4.1] at c1
        have hl2 := d1.lenle HG.out
        have hcap := (d1.buf d4.1).1.le
        rw [d1.blen'] at hcap
        obtain ⟨bl, hbl⟩ : ∃ bl, L2.len - L2.r1 = bl := ⟨_, rfl⟩
        have hcl : ¬ L2.cap = L2.r1 := by omega
        have hle1 : (L2.r1 : Int) ≤ (L2.len : Int) := by omega
        have HR2 := Lib.hid hr2
        have HBL := Lib.hid hbl
        have HMG := Lib.hid (show m + (n0 - m) = n0 by omega)
        clear d1 d2 d3 d4 d5 d6 i1 i2 i3 i4 i5 hE hI hTM hp1 hlt hr2 HE1
        go_wp2
        go_quiet (fail)
        go_wp2_with fail
        obtain ⟨gO, hgO⟩ : ∃ gO, gO = gk := ⟨_, rfl⟩
        go_loopg [10, 12, 13] (n0 - m) (fun g2 s10 s12 s13 wy => ∃ (su j b : Nat) (L2 : Lay), s10 = .int .i64 su ∧ s12 = .slice (some ⟨L2.B, L2.r1, none⟩) b (L2.cap - L2.r1) ∧ s13 = .int .i64 j ∧ Hid (m + j + g2 = n0 ∧ b = L2.len - L2.r1 ∧ L2.r1 + 1 ≤ L2.len ∧ TM G L w P r L2 wy su m j))
        case atStart => exact ⟨su, 0, bl, L2, rfl, rfl, rfl, Lib.hid ⟨HMG.out, HBL.out.symm, HR2.out, HM.out.drewN HL.out nq⟩⟩
        case round =>
          obtain ⟨su2, j, b, L3, rfl, rfl, rfl, hR⟩ := hrel
          clear HM HBL HMG HR2 c0 c1 c2 c3 c4 c5 c6 c7 c8 c9 hl2 hcap hcl hle1 hbl
          obtain ⟨q1, q2, q3, hTM⟩ := hR.out
          have hd := hTM.dl
          have hnb := hTM.av.1
          have hb3 := hd.blen
          have hl3 := hd.lenle HG.out
          have hjl := hTM.le
          have e1 := hTM.se.base
          have e2 := hTM.se.r1
          have hst4 := HST.out
          have hn0 := HN0.out
          obtain ⟨c0, c1, c2, c3, c4, c5, c6, c7, c8, c9⟩ := hd.cells
          rw [bufv_of hnb] at c1
          have z3 := Rw.fz hd.row 3
          have hjs : L3.r1 + j ≤ 4000 := by omega
          have hbs : L3.r1 + b ≤ 4000 := by omega
          by_cases hjb : j < b
          · have hjz : (j : Int) < (b : Int) := by omega
            obtain ⟨g3, rfl⟩ : ∃ g3, gk = g3 + 1 := ⟨gk - 1, by omega⟩
            have hpl : L.pos + m + j < G.T.length := by omega
            have hcell := hd.byte hnb (j := L3.r1 + j) (by omega)
            rw [show L3.base + (L3.r1 + j) = L.pos + m + j by omega, T_get hpl] at hcell
            obtain ⟨c, hc⟩ : ∃ c, G.T[L.pos + m + j] = c := ⟨_, rfl⟩
            rw [hc] at hcell
            have hcb := c.toNat_lt
            have HC := Lib.hid hc
            have HPL := Lib.hid hpl
            have HTM := Lib.hid hTM
            have HQ := Lib.hid (And.intro q1 (And.intro q2 q3))
            have HMJ := Lib.hid (show m + j + (g3 + 1) = n0 from q1)
            have HJL := Lib.hid (show L3.base = L.base ∧ L3.r1 = L.r1 + m ∧ L3.r1 + j < L3.len ∧ L3.base + L3.len ≤ G.T.length from ⟨e1, e2, by omega, hb3⟩)
            by_cases h92 : c = 92
            · have h92z : (c.toNat : Int) = 92 := by rw [h92]; rfl
              have h92c := Lib.hid h92
              clear hc hTM q1 q2 q3 hd hnb hb3 hjl e1 e2 hst4 hn0 h92
              as_aux_lemma =>
              go_upto_if 72 with fail
              go_cut [12] from 68 to 94 (fun s12 wx => ∃ (L4 : Lay), s12 = .slice (some ⟨L4.B, L4.r1, none⟩) (L4.len - L4.r1) (L4.cap - L4.r1) ∧ Hid (TM G L w P r L4 wx su2 m j ∧ L4.r1 + j + 2 ≤ L4.len))
              case first =>
                by_cases hjb2 : j + 1 < b
                · have hjz2 : ¬ (b : Int) ≤ (j : Int) + 1 := by omega
                  have HX4 : Hid (Value.slice (some ⟨L3.B, L3.r1, none⟩) b (L3.cap - L3.r1) = Value.slice (some ⟨L3.B, L3.r1, none⟩) (L3.len - L3.r1) (L3.cap - L3.r1) ∧ (TM G L w P r L3 wr su2 m j ∧ L3.r1 + j + 2 ≤ L3.len)) := Lib.hid (by
                    obtain ⟨p1, p2, p3⟩ := HQ.out
                    exact ⟨by rw [p2], HTM.out, by omega⟩)
                  clear hjb2
                  go_wp2_with fail
                  go_meet
                  exact ⟨L3, HX4.out.1, Lib.hid HX4.out.2⟩
                · have hjz2 : (b : Int) ≤ (j : Int) + 1 := by omega
                  have HE4 := ensure G HG.out L3 wr HTM.out.dl (j + 2) (by have := HQ.out.2.1; omega) (by omega)
                  rw [show ((j + 2 : Nat) : Int) = (j : Int) + 2 by omega] at HE4
                  have HE4 := Lib.hid HE4
                  clear hjb2
                  go_wp2_with fail
                  refine HE4.out.mono ?_
                  rintro e w4 ⟨he, hE⟩
                  obtain ⟨L4, d1, d2, d3, d4, d5, d6⟩ := hE.out
                  have hm4 := d3.sm
                  obtain ⟨k0, k1, k2, k3, k4, k5, k6, k7, k8, k9⟩ := d1.cells
                  rw [bufv_of d4.1] at k1
                  have hl4 := d1.lenle HG.out
                  have hcap := (d1.buf d4.1).1.le
                  rw [d1.blen'] at hcap
                  have z3 := Rw.fz d1.row 3
                  obtain ⟨p1, p2, p3⟩ := HQ.out
                  obtain ⟨r1, r2, r3, r4⟩ := HJL.out
                  have f1 := hm4.r1
                  have f2 := hm4.base
                  have f3 := d1.blen
                  have f4 := HTM.out.dl.blen
                  by_cases hlt : L3.pos + (j + 2) ≤ G.T.length
                  · rw [show decide (L3.pos + (j + 2) ≤ G.T.length) = true by simpa using hlt] at he
                    subst he
                    have HTM4 : Hid (TM G L w P r L4 w4 su2 m j ∧ L4.r1 + j + 2 ≤ L4.len) := Lib.hid ⟨HTM.out.go' HL.out d1 d2 hm4 (d4.mono (by omega)) d3.lenle, by have := d5 hlt; omega⟩
                    have hcl4 : ¬ L4.cap = L4.r1 := by have := d5 hlt; omega
                    have hle4 : (L4.r1 : Int) ≤ (L4.len : Int) := by have := d5 hlt; omega
                    clear d1 d2 d3 d4 d5 d6 hE p1 p2 p3 r1 r2 r3 r4 f1 f2 f3 f4 hlt hm4 hcap c0 c1 c2 c3 c4 c5 c6 c7 c8 c9
                    go_wp2
                    go_quiet (fail)
                    go_wp2_with fail
                    go_meet
                    exact ⟨L4, rfl, Lib.hid ⟨HTM4.out.1.drewN HL.out _, HTM4.out.2⟩⟩
                  · rw [show decide (L3.pos + (j + 2) ≤ G.T.length) = false by simpa using hlt] at he
                    subst he
                    have g6 := d6 hlt
                    have hTE : TE G L w P r (L4.fwd (j + 1)) (w4.setCell ⟨G.D, 3, none⟩ (.int .i64 (L4.len : Int))) su2 (m + (j + 1)) := by
                      have hpe : L3.pos = L3.base + L3.r1 := rfl
                      obtain ⟨x1, x2⟩ := put3 HG.out HL.out d1 (HTM.out.go.trans HL.out d2) d4.1 (j + 1) (by omega) (L4.len : Int) (by omega)
                      obtain ⟨o, k1, k2⟩ := HTM.out.ei
                      have hend : L.pos + m + j + 1 = G.T.length := by have := HPL.out; have : L.pos = L.base + L.r1 := rfl; omega
                      have k3 := (k1.one HPL.out (.inr ⟨by rw [HC.out]; exact h92c.out, .inl hend⟩)).end hend
                      refine ⟨x1, x2, by have := (HTM.out.se.trans hm4.se).trans (Sm.fwd L4 (j + 1)).se; simpa using this, ⟨_, by rw [k3]; congr 1; omega, ?_⟩, ⟨d4.1, ?_⟩⟩
                      · rw [show L.pos + (m + (j + 1)) = L.pos + m + j + 1 by omega]
                        exact (k2.one HPL.out).same hm4.esc
                      · show min (L4.base + (L4.r1 + (j + 1)) + 1) G.T.length ≤ L4.base + L4.len
                        omega
                    have HTE := Lib.hid hTE
                    clear d1 d2 d3 d4 d5 d6 hE p1 p2 p3 r1 r2 r3 r4 f1 f2 f3 f4 hlt hm4 hcap c0 c1 c2 c3 c4 c5 c6 c7 c8 c9 g6 hTE
                    go_wp2_with fail
                    go_meet
                    exact ⟨su2, m + (j + 1), L4.fwd (j + 1), rfl, HTE⟩
              case rest =>
                obtain ⟨L4, rfl, hR4⟩ := hcut
                clear c0 c1 c2 c3 c4 c5 c6 c7 c8 c9 HTM HJL hR z3 hl3 hjb hjz hcell HQ
                obtain ⟨hTM4, hj2⟩ := hR4.out
                have hd4 := hTM4.dl
                have hnb4 := hTM4.av.1
                have hl4 := hd4.lenle HG.out
                have hbl4 := hd4.blen
                have e1 := hTM4.se.base
                have e2 := hTM4.se.r1
                have hpl2 : L.pos + m + j + 1 < G.T.length := by have := HST.out.2.1; omega
                obtain ⟨c0, c1, c2, c3, c4, c5, c6, c7, c8, c9⟩ := hd4.cells
                have hcell := hd4.byte hnb4 (j := L4.r1 + (j + 1)) (by omega)
                rw [show L4.base + (L4.r1 + (j + 1)) = L.pos + m + j + 1 by have := HST.out.2.1; omega, T_get hpl2] at hcell
                obtain ⟨d, hdd⟩ : ∃ d, G.T[L.pos + m + j + 1] = d := ⟨_, rfl⟩
                rw [hdd] at hcell
                have hdb := d.toNat_lt
                have htab := (HE.out.step hTM4.go.toStep).cell d
                obtain ⟨x, hx⟩ : ∃ x, r d = x := ⟨_, rfl⟩
                rw [hx] at htab
                have hxb := x.toNat_lt
                obtain ⟨bl, hbl⟩ : ∃ bl, L4.len - L4.r1 = bl := ⟨_, rfl⟩
                have hjbl : (j : Int) + 1 < (bl : Int) := by omega
                have HTM4 := Lib.hid hTM4
                have HD4 := Lib.hid (show L4.base = L.base ∧ L4.r1 = L.r1 + m ∧ L4.r1 + j + 2 ≤ L4.len ∧ L4.base + L4.len ≤ G.T.length ∧ r G.T[L.pos + m + j + 1] = x ∧ L4.len - L4.r1 = bl from ⟨e1, e2, hj2, hbl4, by rw [hdd]; exact hx, hbl⟩)
                have HPL2 := Lib.hid hpl2
                rw [hbl]
                clear hd4 hnb4 hbl4 e1 e2 hdd hx hTM4 hR4 hbl hj2
                go_upto_region 17 with fail
                go_cut [15] from 95 to 103 (fun s15 wx => s15 = .int .u8 (x.toNat : Int) ∧ Hid (TM G L w P r L4 wx su2 m j))
                case first =>
                  go_quiet (fail)
                  go_wp2_with fail
                  go_meet
                  exact ⟨rfl, Lib.hid (HTM4.out.drewN HL.out _)⟩
                case rest =>
                  obtain ⟨rfl, hR5⟩ := hcut
                  clear c0 c1 c2 c3 c4 c5 c6 c7 c8 c9 HTM4 hcell htab hdb
                  obtain ⟨c0, c1, c2, c3, c4, c5, c6, c7, c8, c9⟩ := hR5.out.dl.cells
                  rw [bufv_of hR5.out.av.1] at c1
                  rw [hR5.out.se.sk] at c6
                  by_cases hx0 : x = 0
                  · have hx0z : (x.toNat : Int) = 0 := by rw [hx0]; rfl
                    have HR3 : Hid (m + (j + 1) + g3 = n0 ∧ bl = L4.len - L4.r1 ∧ L4.r1 + 1 ≤ L4.len ∧ TM G L w P r L4 wc su2 m (j + 1)) := Lib.hid (by
                      obtain ⟨k1, k2, k3, k4, k5, k6⟩ := HD4.out
                      have hT := hR5.out
                      refine ⟨by have := HMJ.out; omega, k6.symm, by omega, hT.dl, hT.go, hT.se, ?_, hT.av, by omega⟩
                      obtain ⟨o, o1, o2⟩ := hT.ei
                      exact ⟨_, o1.one HPL.out (.inr ⟨by rw [HC.out]; exact h92c.out, .inr ⟨HPL2.out, by rw [k5]; exact hx0⟩⟩), o2.one HPL.out⟩)
                    clear hx0
                    go_wp2_with fail
                    go_roundg g3
                    case measure => omega
                    case rel => exact ⟨su2, j + 1, bl, L4, rfl, rfl, by go_num, HR3⟩
                  · have hx0z : ¬ (x.toNat : Int) = 0 := fun e => hx0 (UInt8.toNat_inj.1 (by show x.toNat = 0; omega))
                    obtain ⟨g4, rfl⟩ : ∃ g4, g3 = g4 + 1 := ⟨g3 - 1, by
                      obtain ⟨k1, k2, k3, k4, k5, k6⟩ := HD4.out
                      have := HMJ.out
                      have := HN0.out
                      have := HST.out.2.1
                      omega⟩
                    cases hsk : L.sk with
                    | true =>
                      rw [hsk] at c6
                      have HR3 : Hid (m + (j + 2) + g4 = n0 ∧ bl = L4.len - L4.r1 ∧ L4.r1 + 1 ≤ L4.len ∧ TM G L w P r L4 wc su2 m (j + 2)) := Lib.hid (by
                        obtain ⟨k1, k2, k3, k4, k5, k6⟩ := HD4.out
                        have hT := hR5.out
                        refine ⟨by have := HMJ.out; omega, k6.symm, by omega, hT.dl, hT.go, hT.se, ?_, hT.av, by omega⟩
                        obtain ⟨o, o1, o2⟩ := hT.ei
                        exact ⟨_, o1.two HPL2.out (by rw [HC.out]; exact h92c.out) (by rw [k5]; exact hx0), o2.two hsk _⟩)
                      clear hx0 hsk
                      go_wp2_with fail
                      go_roundg g4
                      case measure => omega
                      case rel => exact ⟨su2, j + 2, bl, L4, rfl, rfl, by go_num, HR3⟩
                    | false =>
                      rw [hsk] at c6
                      have HSK := Lib.hid hsk
                      have HX0 := Lib.hid hx0
                      have hT := hR5.out
                      have hnb := hT.av.1
                      have hcap4 := (hT.dl.buf hnb).1.le
                      rw [hT.dl.blen'] at hcap4
                      have z7 := Rw.fz hT.dl.row 7
                      obtain ⟨lo, hlo⟩ : ∃ lo, L4.r0 + su2 = lo := ⟨_, rfl⟩
                      obtain ⟨hi, hhi⟩ : ∃ hi, L4.r1 + j = hi := ⟨_, rfl⟩
                      obtain ⟨k, hk⟩ : ∃ k, hi - lo = k := ⟨_, rfl⟩
                      obtain ⟨y, hy⟩ : ∃ y, sub G.T (L.frm + su2) (L.pos + m + j) = y := ⟨_, rfl⟩
                      obtain ⟨k1, k2, k3, k4, k5, k6⟩ := HD4.out
                      have s1 := HST.out.2.1
                      have s2 := HST.out.2.2.1
                      have s3 := hT.se.r0
                      obtain ⟨o, o1, o2⟩ := hT.ei
                      have i1 := o2.lo
                      have i2 := o2.hi
                      have i3 := o2.len
                      have i4 := HX.out.1
                      have i5 := HT.out
                      have hyl : y.length = k := by rw [← hy, sub_len (by omega)]; omega
                      have hYC : ∀ q z, y[q]? = some z → wc.drew.cell? ⟨L4.B, lo + q, none⟩ = some (.int .u8 (z.toNat : Int)) := by
                        have hbs := (hT.dl.drewN 1).bs hnb lo lo hi (by omega) (by omega) (fun _ => rfl)
                        rw [show L4.base + lo = L.frm + su2 by omega, show L4.base + hi = L.pos + m + j by omega, hy] at hbs
                        rcases hbs with ⟨h1, h2⟩ | ⟨A, off, h1, h2⟩
                        · cases h1
                        · cases h1
                          exact h2
                      have hw1 : IntKind.i64.wrap ((L4.r0 : Int) + (su2 : Int)) = (lo : Int) := by rw [IntKind.wrap_i64]; omega
                      have hw2 : IntKind.i64.wrap ((L4.r1 : Int) + (j : Int)) = (hi : Int) := by rw [IntKind.wrap_i64]; omega
                      have hcl : ¬ L4.cap = lo := by omega
                      have hlh : (lo : Int) ≤ (hi : Int) := by omega
                      have hhc : (hi : Int) ≤ (L4.cap : Int) := by omega
                      obtain ⟨en, hen⟩ : ∃ en, L4.esc.length = en := ⟨_, rfl⟩
                      obtain ⟨N, hN⟩ : ∃ N, en + k = N := ⟨_, rfl⟩
                      rw [hen] at c7
                      have HEN := Lib.hid hen
                      have HNN := Lib.hid hN
                      have HYL := Lib.hid hyl
                      have HYC := Lib.hid hYC
                      have hlim1 : en + k ≤ 60000 := by omega
                      have HBUF := Lib.hid (show BufAt wc.drew L4.E L4.esc L4.ecap from (hT.dl.drewN 1).esc)
                      have HSTO : Hid (∀ g cap' w', Hid (App wc.drew L4.E L4.esc y g cap' w') → w'.cell? ⟨G.D, 7, none⟩ = some (.slice (some ⟨L4.E, 0, none⟩) en L4.ecap) ∧ w'.frozen? ⟨G.D, 7, none⟩ = false ∧ w'.cell? ⟨G.D, 1, none⟩ = some (.slice (some ⟨L4.B, 0, none⟩) L4.len L4.cap) ∧ w'.cell? ⟨G.D, 2, none⟩ = some (.int .i64 (L4.r0 : Int)) ∧ w'.cell? ⟨G.D, 3, none⟩ = some (.int .i64 (L4.r1 : Int))) := Lib.hid fun g cap' w' hA => by
                        have hrow := Rw.but (hT.dl.drewN 1).row hA.out.but (by simpa using hT.dl.DE)
                        have h7 := Rw.cell hrow 7
                        have h1 := Rw.cell hrow 1
                        rw [← hen]
                        refine ⟨h7, Rw.fz hrow 7, ?_, Rw.cell hrow 2, Rw.cell hrow 3⟩
                        rw [← bufv_of hnb]
                        exact h1
                      have HFIN : Hid (∀ g cap' w', Hid (App wc.drew L4.E L4.esc y g cap' w') → DL G (L4.more y g cap') (w'.setCell ⟨G.D, 7, none⟩ (.slice (some ⟨g, 0, none⟩) N cap')) ∧ Go G L w (L4.more y g cap') (w'.setCell ⟨G.D, 7, none⟩ (.slice (some ⟨g, 0, none⟩) N cap'))) := Lib.hid fun g cap' w' hA => by
                        have := (hT.dl.drewN 1).app HG.out hA.out (by rw [List.length_append]; omega) N (by omega)
                        exact ⟨this.1, (hT.go.trans HL.out (Go.drewN G L4 wc 1)).trans HL.out this.2⟩
                      have HIN := Lib.hid (show L4.r0 = L.r0 ∧ L.frm + su2 ≤ L.pos + m + j ∧ L4.r1 ≤ 5000 ∧ L4.r0 ≤ L4.r1 ∧ sub G.T (L.frm + su2) (L.pos + m + j) = y ∧ en ≤ 54000 from ⟨s3, i2, by omega, by have := hT.dl.r01; omega, hy, by omega⟩)
                      clear hT hnb hlo hhi hy k1 k2 k3 k4 k5 k6 s1 s2 s3 o1 o2 i1 i2 i3 i4 i5 hyl hYC hen hN hx0
                      go_upto_region 20 with fail
                      go_cut [] from 104 to 135 (fun wx => ∃ g cap', Hid (DL G (L4.more y g cap') wx ∧ Go G L w (L4.more y g cap') wx))
                      case first =>
                        refine wp_region_held_drew (S := (fun wx => wx.cell? ⟨G.D, 1, none⟩ = some (.slice (some ⟨L4.B, 0, none⟩) L4.len L4.cap) ∧ wx.cell? ⟨G.D, 2, none⟩ = some (.int .i64 (L4.r0 : Int)) ∧ wx.cell? ⟨G.D, 3, none⟩ = some (.int .i64 (L4.r1 : Int)))) (by kernel_rfl) ?_ (fun hHeld => ?_)
                        · exact ⟨c1, c2, c3⟩
                        refine (show wpAnyH _ _ _ _ _ 26 (List.toArray [false, false, false, false, false, false, false, false, false, false, false, false, false, false, false, false, false, false, false, false, false, false, false, false, false, false]) _ _ from ?_)
                        refine wpAnyH_take (i := 0) (v := ?_) rfl (by kernel_rfl) (by kernel_rfl) (by kernel_rfl) (fun _ _ _ h => h) (Or.inl ⟨by rfl, ?_⟩) hHeld ?_
                        rotate_left
                        · intro wz hSw; go_simp <;> with_reducible rfl
                        simp only [List.getElem_toArray, List.getElem_cons_succ, List.getElem_cons_zero, Act.put, List.setIfInBounds_toArray, List.set_cons_zero, List.set_cons_succ]
                        refine wpAnyH_take (i := 1) (v := ?_) rfl (by kernel_rfl) (by kernel_rfl) (by kernel_rfl) (fun _ _ _ h => h) (Or.inl ⟨by rfl, ?_⟩) hHeld ?_
                        rotate_left
                        · intro wz hSw; go_simp <;> with_reducible rfl
                        simp only [List.getElem_toArray, List.getElem_cons_succ, List.getElem_cons_zero, Act.put, List.setIfInBounds_toArray, List.set_cons_zero, List.set_cons_succ]
                        refine wpAnyH_take (i := 2) (v := ?_) rfl (by kernel_rfl) (by kernel_rfl) (by kernel_rfl) (fun _ _ _ h => h) (Or.inl ⟨by rfl, ?_⟩) hHeld ?_
                        rotate_left
                        · intro wz hSw; go_simp <;> with_reducible rfl
                        simp only [List.getElem_toArray, List.getElem_cons_succ, List.getElem_cons_zero, Act.put, List.setIfInBounds_toArray, List.set_cons_zero, List.set_cons_succ]
                        refine wpAnyH_take (i := 3) (v := ?_) rfl (by kernel_rfl) (by kernel_rfl) (by kernel_rfl) (fun _ _ _ h => h) (Or.inl ⟨by rfl, ?_⟩) hHeld ?_
                        rotate_left
                        · intro wz hSw; go_simp <;> with_reducible rfl
                        simp only [List.getElem_toArray, List.getElem_cons_succ, List.getElem_cons_zero, Act.put, List.setIfInBounds_toArray, List.set_cons_zero, List.set_cons_succ]
                        refine wpAnyH_take (i := 5) (v := ?_) rfl (by kernel_rfl) (by kernel_rfl) (by kernel_rfl) (fun _ _ _ h => h) (Or.inl ⟨by rfl, ?_⟩) hHeld ?_
                        rotate_left
                        · intro wz hSw; go_simp <;> with_reducible rfl
                        simp only [List.getElem_toArray, List.getElem_cons_succ, List.getElem_cons_zero, Act.put, List.setIfInBounds_toArray, List.set_cons_zero, List.set_cons_succ]
                        refine wpAnyH_take (i := 6) (v := ?_) rfl (by kernel_rfl) (by kernel_rfl) (by kernel_rfl) (fun _ _ _ h => h) (Or.inl ⟨by rfl, ?_⟩) hHeld ?_
                        rotate_left
                        · intro wz hSw; go_simp <;> with_reducible rfl
                        simp only [List.getElem_toArray, List.getElem_cons_succ, List.getElem_cons_zero, Act.put, List.setIfInBounds_toArray, List.set_cons_zero, List.set_cons_succ]
                        refine wpAnyH_take (i := 7) (v := ?_) rfl (by kernel_rfl) (by kernel_rfl) (by kernel_rfl) (fun _ _ _ h => h) (Or.inl ⟨by rfl, ?_⟩) hHeld ?_
                        rotate_left
                        · intro wz hSw; go_simp <;> with_reducible rfl
                        simp only [List.getElem_toArray, List.getElem_cons_succ, List.getElem_cons_zero, Act.put, List.setIfInBounds_toArray, List.set_cons_zero, List.set_cons_succ]
                        refine wpAnyH_take (i := 8) (v := ?_) rfl (by kernel_rfl) (by kernel_rfl) (by kernel_rfl) (fun _ _ _ h => h) (Or.inl ⟨by rfl, ?_⟩) hHeld ?_
                        rotate_left
                        · intro wz hSw; go_simp <;> with_reducible rfl
                        simp only [List.getElem_toArray, List.getElem_cons_succ, List.getElem_cons_zero, Act.put, List.setIfInBounds_toArray, List.set_cons_zero, List.set_cons_succ]
                        refine wpAnyH_take (i := 9) (v := ?_) rfl (by kernel_rfl) (by kernel_rfl) (by kernel_rfl) (fun _ _ _ h => h) (Or.inl ⟨by rfl, ?_⟩) hHeld ?_
                        rotate_left
                        · intro wz hSw; go_simp <;> with_reducible rfl
                        simp only [List.getElem_toArray, List.getElem_cons_succ, List.getElem_cons_zero, Act.put, List.setIfInBounds_toArray, List.set_cons_zero, List.set_cons_succ]
                        refine wpAnyH_take (i := 10) (v := ?_) rfl (by kernel_rfl) (by kernel_rfl) (by kernel_rfl) (fun _ _ _ h => h) (Or.inl ⟨by rfl, ?_⟩) hHeld ?_
                        rotate_left
                        · intro wz hSw; go_simp <;> with_reducible rfl
                        simp only [List.getElem_toArray, List.getElem_cons_succ, List.getElem_cons_zero, Act.put, List.setIfInBounds_toArray, List.set_cons_zero, List.set_cons_succ]
                        refine wpAnyH_take (i := 11) (v := ?_) rfl (by kernel_rfl) (by kernel_rfl) (by kernel_rfl) (fun _ _ _ h => h) (Or.inl ⟨by rfl, ?_⟩) hHeld ?_
                        rotate_left
                        · intro wz hSw; go_simp <;> with_reducible rfl
                        simp only [List.getElem_toArray, List.getElem_cons_succ, List.getElem_cons_zero, Act.put, List.setIfInBounds_toArray, List.set_cons_zero, List.set_cons_succ]
                        refine wpAnyH_take (i := 12) (v := ?_) rfl (by kernel_rfl) (by kernel_rfl) (by kernel_rfl) (fun _ _ _ h => h) (Or.inl ⟨by rfl, ?_⟩) hHeld ?_
                        rotate_left
                        · intro wz hSw; go_simp <;> with_reducible rfl
                        simp only [List.getElem_toArray, List.getElem_cons_succ, List.getElem_cons_zero, Act.put, List.setIfInBounds_toArray, List.set_cons_zero, List.set_cons_succ]
                        refine wpAnyH_take (i := 13) (v := ?_) rfl (by kernel_rfl) (by kernel_rfl) (by kernel_rfl) (fun _ _ _ h => h) (Or.inl ⟨by rfl, ?_⟩) hHeld ?_
                        rotate_left
                        · intro wz hSw; go_simp <;> with_reducible rfl
                        simp only [List.getElem_toArray, List.getElem_cons_succ, List.getElem_cons_zero, Act.put, List.setIfInBounds_toArray, List.set_cons_zero, List.set_cons_succ]
                        refine wpAnyH_take (i := 14) (v := ?_) rfl (by kernel_rfl) (by kernel_rfl) (by kernel_rfl) (fun _ _ _ h => h) (Or.inl ⟨by rfl, ?_⟩) hHeld ?_
                        rotate_left
                        · intro wz hSw; go_simp <;> with_reducible rfl
                        simp only [List.getElem_toArray, List.getElem_cons_succ, List.getElem_cons_zero, Act.put, List.setIfInBounds_toArray, List.set_cons_zero, List.set_cons_succ]
                        refine wpAnyH_take (i := 15) (v := ?_) rfl (by kernel_rfl) (by kernel_rfl) (by kernel_rfl) (fun _ _ _ h => h) (Or.inl ⟨by rfl, ?_⟩) hHeld ?_
                        rotate_left
                        · intro wz hSw; go_simp <;> with_reducible rfl
                        simp only [List.getElem_toArray, List.getElem_cons_succ, List.getElem_cons_zero, Act.put, List.setIfInBounds_toArray, List.set_cons_zero, List.set_cons_succ]
                        refine wpAnyH_take (i := 16) (v := ?_) rfl (by kernel_rfl) (by kernel_rfl) (by kernel_rfl) (fun _ _ _ h => h) (Or.inl ⟨by rfl, ?_⟩) hHeld ?_
                        rotate_left
                        · intro wz hSw; go_simp <;> with_reducible rfl
                        simp only [List.getElem_toArray, List.getElem_cons_succ, List.getElem_cons_zero, Act.put, List.setIfInBounds_toArray, List.set_cons_zero, List.set_cons_succ]
                        refine wpAnyH_take (i := 17) (v := ?_) rfl (by kernel_rfl) (by kernel_rfl) (by kernel_rfl) (fun _ _ _ h => h) (Or.inl ⟨by rfl, ?_⟩) hHeld ?_
                        rotate_left
                        · intro wz hSw; go_simp <;> with_reducible rfl
                        simp only [List.getElem_toArray, List.getElem_cons_succ, List.getElem_cons_zero, Act.put, List.setIfInBounds_toArray, List.set_cons_zero, List.set_cons_succ]
                        refine wpAnyH_take (i := 18) (v := ?_) rfl (by kernel_rfl) (by kernel_rfl) (by kernel_rfl) (fun _ _ _ h => h) (Or.inl ⟨by rfl, ?_⟩) hHeld ?_
                        rotate_left
                        · intro wz hSw; go_simp <;> with_reducible rfl
                        simp only [List.getElem_toArray, List.getElem_cons_succ, List.getElem_cons_zero, Act.put, List.setIfInBounds_toArray, List.set_cons_zero, List.set_cons_succ]
                        refine wpAnyH_take (i := 19) (v := ?_) rfl (by kernel_rfl) (by kernel_rfl) (by kernel_rfl) (fun _ _ _ h => h) (Or.inl ⟨by rfl, ?_⟩) hHeld ?_
                        rotate_left
                        · intro wz hSw; go_simp <;> with_reducible rfl
                        simp only [List.getElem_toArray, List.getElem_cons_succ, List.getElem_cons_zero, Act.put, List.setIfInBounds_toArray, List.set_cons_zero, List.set_cons_succ]
                        refine wpAnyH_take (i := 20) (v := ?_) rfl (by kernel_rfl) (by kernel_rfl) (by kernel_rfl) (fun _ _ _ h => h) (Or.inl ⟨by rfl, ?_⟩) hHeld ?_
                        rotate_left
                        · intro wz hSw; go_simp <;> with_reducible rfl
                        simp only [List.getElem_toArray, List.getElem_cons_succ, List.getElem_cons_zero, Act.put, List.setIfInBounds_toArray, List.set_cons_zero, List.set_cons_succ]
                        refine wpAnyH_take (i := 21) (v := ?_) rfl (by kernel_rfl) (by kernel_rfl) (by kernel_rfl) (fun _ _ _ h => h) (Or.inl ⟨by rfl, ?_⟩) hHeld ?_
                        rotate_left
                        · intro wz hSw; go_simp <;> with_reducible rfl
                        simp only [List.getElem_toArray, List.getElem_cons_succ, List.getElem_cons_zero, Act.put, List.setIfInBounds_toArray, List.set_cons_zero, List.set_cons_succ]
                        refine wpAnyH_ready (rs := [4]) (by kernel_rfl) (by simp) (AllReadyH.cons rfl (fun K hK => ?_) AllReadyH.nil)
                        go_simp
                        refine hK.out _ _ ?_ (fun hHeld => ?_)
                        · first | exact hHeld | exact (HSTO.out _ _ _ (by assumption)).2.2 | exact ⟨(World.cell?_setCell_other _ _ _ _ (by simp)).trans hHeld.1, (World.cell?_setCell_other _ _ _ _ (by simp)).trans hHeld.2.1, (World.cell?_setCell_other _ _ _ _ (by simp)).trans hHeld.2.2⟩
                        clear hK K
                        refine wpAnyH_ready (rs := [22]) (by kernel_rfl) (by simp) (AllReadyH.cons rfl (fun K hK => ?_) AllReadyH.nil)
                        refine step_esc (by rfl) _ _ (by rfl) L4.E en L4.ecap L4.esc (by rfl) HEN.out HBUF.out L4.B lo k _ y (by rfl) HYC.out HYL.out (by omega) N HNN.out ?_; intro g5 cap5 w5 hA5; have c75 := (HSTO.out _ _ _ hA5).1; have z75 := (HSTO.out _ _ _ hA5).2.1
                        refine hK.out _ _ ?_ (fun hHeld => ?_)
                        · first | exact hHeld | exact (HSTO.out _ _ _ (by assumption)).2.2 | exact ⟨(World.cell?_setCell_other _ _ _ _ (by simp)).trans hHeld.1, (World.cell?_setCell_other _ _ _ _ (by simp)).trans hHeld.2.1, (World.cell?_setCell_other _ _ _ _ (by simp)).trans hHeld.2.2⟩
                        clear hK K
                        refine wpAnyH_take (i := 23) (v := ?_) rfl (by kernel_rfl) (by kernel_rfl) (by kernel_rfl) (fun _ _ _ h => h) (Or.inl ⟨by rfl, ?_⟩) hHeld ?_
                        rotate_left
                        · intro wz hSw; go_simp <;> with_reducible rfl
                        simp only [List.getElem_toArray, List.getElem_cons_succ, List.getElem_cons_zero, Act.put, List.setIfInBounds_toArray, List.set_cons_zero, List.set_cons_succ]
                        refine wpAnyH_take (i := 24) (v := ?_) rfl (by kernel_rfl) (by kernel_rfl) (by kernel_rfl) (fun _ _ _ h => h) (Or.inl ⟨by rfl, ?_⟩) hHeld ?_
                        rotate_left
                        · intro wz hSw; go_simp <;> with_reducible rfl
                        simp only [List.getElem_toArray, List.getElem_cons_succ, List.getElem_cons_zero, Act.put, List.setIfInBounds_toArray, List.set_cons_zero, List.set_cons_succ]
                        refine wpAnyH_ready (rs := [25]) (by kernel_rfl) (by simp) (AllReadyH.cons rfl (fun K hK => ?_) AllReadyH.nil)
                        go_simp
                        refine hK.out _ _ ?_ (fun hHeld => ?_)
                        · first | exact hHeld | exact (HSTO.out _ _ _ (by assumption)).2.2 | exact ⟨(World.cell?_setCell_other _ _ _ _ (by simp)).trans hHeld.1, (World.cell?_setCell_other _ _ _ _ (by simp)).trans hHeld.2.1, (World.cell?_setCell_other _ _ _ _ (by simp)).trans hHeld.2.2⟩
                        clear hK K
                        refine wpAnyH_done (by kernel_rfl) ?_ _
                        go_wp2_with fail
                        go_meet
                        exact ⟨g5, cap5, Lib.hid (HFIN.out _ _ _ hA5)⟩
                      case rest =>
                        obtain ⟨g5, cap5, h5⟩ := hcut
                        clear c0 c1 c2 c3 c4 c5 c6 c7 c8 c9 z7 HSTO HFIN HBUF HYC hw1 hw2 hcl hlh hhc
                        have hd5 := h5.out.1
                        have c7 : wc.cell? ⟨G.D, 7, none⟩ = some (.slice (some ⟨g5, 0, none⟩) N cap5) := by
                          have := hd5.cells.2.2.2.2.2.2.2.1
                          rw [show (L4.more y g5 cap5).esc.length = N by show (L4.esc ++ y).length = N; rw [List.length_append, HEN.out, HYL.out]; exact HNN.out] at this
                          exact this
                        have hl5 : (L4.esc ++ y).length = N := by rw [List.length_append, HEN.out, HYL.out]; exact HNN.out
                        have HL5 := Lib.hid hl5
                        obtain ⟨N2, hN2⟩ : ∃ N2, N + 1 = N2 := ⟨_, rfl⟩
                        have HN2 := Lib.hid hN2
                        have hlim2 : N + 1 ≤ 60001 := by have := HNN.out; omega
                        have hq5 := hd5.quiet ((But.refl [] wc).alloc (.cells #[.int .u8 (x.toNat : Int)] 5))
                        have HBUF := Lib.hid (show BufAt (wc.alloc (.cells #[.int .u8 (x.toNat : Int)] 5)) g5 (L4.esc ++ y) cap5 from hq5.1.esc)
                        have HXC := Lib.hid (show ∀ q z, [x][q]? = some z → (wc.alloc (.cells #[.int .u8 (x.toNat : Int)] 5)).cell? ⟨wc.heap.size, 0 + q, none⟩ = some (.int .u8 (z.toNat : Int)) from fun q z hz => by
                          cases q with
                          | succ q => simp at hz
                          | zero =>
                            simp at hz
                            subst hz
                            rw [cell_of_row _ _ (0 + 0) _ _ _ (heap_alloc_new wc _)]
                            rfl)
                        have HSTO : Hid (∀ g cap' w', Hid (App (wc.alloc (.cells #[.int .u8 (x.toNat : Int)] 5)) g5 (L4.esc ++ y) [x] g cap' w') → w'.cell? ⟨G.D, 7, none⟩ = some (.slice (some ⟨g5, 0, none⟩) N cap5) ∧ w'.frozen? ⟨G.D, 7, none⟩ = false) := Lib.hid fun g cap' w' hA => by
                          have hrow := Rw.but hq5.1.row hA.out.but (by simpa using (show G.D ≠ g5 from hd5.DE))
                          have h7 := Rw.cell hrow 7
                          rw [← hl5]
                          exact ⟨h7, Rw.fz hrow 7⟩
                        have HFIN : Hid (∀ g cap' w', Hid (App (wc.alloc (.cells #[.int .u8 (x.toNat : Int)] 5)) g5 (L4.esc ++ y) [x] g cap' w') → DL G ((L4.more y g5 cap5).more [x] g cap') (w'.setCell ⟨G.D, 7, none⟩ (.slice (some ⟨g, 0, none⟩) N2 cap')) ∧ Go G L w ((L4.more y g5 cap5).more [x] g cap') (w'.setCell ⟨G.D, 7, none⟩ (.slice (some ⟨g, 0, none⟩) N2 cap'))) := Lib.hid fun g cap' w' hA => by
                          have := hq5.1.app HG.out hA.out (by show (L4.esc ++ y ++ [x]).length ≤ 100000; rw [List.length_append, hl5]; simp; omega) N2 (by show (L4.esc ++ y).length + 1 = N2; omega)
                          exact ⟨this.1, (h5.out.2.trans HL.out hq5.2).trans HL.out this.2⟩
                        clear hd5 hl5 hN2 hq5
                        go_upto_region 21 with fail
                        go_cut [] from 136 to 145 (fun wx => ∃ g cap', Hid (DL G ((L4.more y g5 cap5).more [x] g cap') wx ∧ Go G L w ((L4.more y g5 cap5).more [x] g cap') wx))
                        case first =>
                          go_wp2_with (at_builtin; refine app_escn rfl _ _ rfl g5 N cap5 (L4.esc ++ y) rfl HL5.out HBUF.out wc.heap.size 0 1 1 [x] rfl HXC.out rfl (by omega) N2 HN2.out ?_; intro g6 cap6 w6 hA6; have c76 := (HSTO.out _ _ _ hA6).1; have z76 := (HSTO.out _ _ _ hA6).2)
                          go_meet
                          exact ⟨g6, cap6, Lib.hid (HFIN.out _ _ _ hA6)⟩
                        case rest =>
                          obtain ⟨g6, cap6, h6⟩ := hcut
                          clear c7 HSTO HFIN HBUF HXC
                          have c2 : wc.cell? ⟨G.D, 2, none⟩ = some (.int .i64 (L4.r0 : Int)) := h6.out.1.cells.2.2.1
                          have c3 : wc.cell? ⟨G.D, 3, none⟩ = some (.int .i64 (L4.r1 : Int)) := h6.out.1.cells.2.2.2.1
                          obtain ⟨i0, i2, i5, i6, i7, i8⟩ := HIN.out
                          obtain ⟨a1, ha1⟩ : ∃ a1, L4.r1 - L4.r0 = a1 := ⟨_, rfl⟩
                          obtain ⟨a2, ha2⟩ : ∃ a2, a1 + j = a2 := ⟨_, rfl⟩
                          obtain ⟨a3, ha3⟩ : ∃ a3, a2 + 2 = a3 := ⟨_, rfl⟩
                          have hw1 : IntKind.i64.wrap ((L4.r1 : Int) - (L4.r0 : Int)) = (a1 : Int) := by rw [IntKind.wrap_i64]; omega
                          have hw2 : IntKind.i64.wrap ((a1 : Int) + (j : Int)) = (a2 : Int) := by rw [IntKind.wrap_i64]; omega
                          have hw3 : IntKind.i64.wrap ((a2 : Int) + 2) = (a3 : Int) := by rw [IntKind.wrap_i64]; omega
                          have HR3 : Hid (∀ q, m + (j + 2) + g4 = n0 ∧ bl = L4.len - L4.r1 ∧ L4.r1 + 1 ≤ L4.len ∧ TM G L w P r ((L4.more y g5 cap5).more [x] g6 cap6) (wc.drewN q) a3 m (j + 2)) := Lib.hid fun q => by
                            obtain ⟨k1, k2, k3, k4, k5, k6⟩ := HD4.out
                            have hT := hR5.out
                            have s1 := HST.out.2.1
                            have s2 := HST.out.2.2.1
                            refine ⟨by have := HMJ.out; omega, k6.symm, by omega, h6.out.1.drewN q, h6.out.2.trans HL.out (Go.drewN _ _ _ q), ⟨hT.se.base, hT.se.r0, hT.se.r1, hT.se.sec, hT.se.sk, hT.se.line⟩, ?_, hT.av, by show L4.r1 + (j + 2) ≤ L4.len; omega⟩
                            obtain ⟨o, o1, o2⟩ := hT.ei
                            refine ⟨o ++ [x], ?_, ?_⟩
                            · have := o1.two HPL2.out (by rw [HC.out]; exact h92c.out) (by rw [k5]; exact HX0.out)
                              rw [k5] at this
                              exact this
                            · have := o2.esc (L3 := (L4.more y g5 cap5).more [x] g6 cap6) HSK.out (by have := HPL.out; omega) x (by show L4.esc ++ y ++ [x] = _; rw [i7])
                              rw [show L.frm + a3 = L.pos + m + j + 2 by omega]
                              exact this
                          clear ha1 ha2 ha3 i0 i2 i5 i6 i7 i8
                          go_wp2_with fail
                          go_quiet (fail)
                          go_wp2_with fail
                          go_roundg g4
                          case measure => omega
                          case rel => exact ⟨a3, j + 2, bl, (L4.more y g5 cap5).more [x] g6 cap6, rfl, rfl, by go_num, Lib.hid (HR3.out _)⟩
            · have h92z : ¬ (c.toNat : Int) = 92 := fun e => h92 (UInt8.toNat_inj.1 (by show c.toNat = 92; omega))
              have HGET := Lib.hid ((HS.out.step hTM.go.toStep).get c)
              cases hp : P c with
              | true =>
                rw [hp] at HGET
                have HR3 : Hid (m + (j + 1) + g3 = n0 ∧ b = L3.len - L3.r1 ∧ L3.r1 + 1 ≤ L3.len ∧ TM G L w P r L3 wr su2 m (j + 1)) := Lib.hid ⟨by omega, q2, q3, hTM.dl, hTM.go, hTM.se, by
                  obtain ⟨o, k1, k2⟩ := hTM.ei
                  exact ⟨_, k1.one hpl (.inl ⟨by rw [hc]; exact h92, by rw [hc]; exact hp⟩), k2.one hpl⟩, hTM.av, by omega⟩
                clear hc hTM q1 q2 q3 hd hnb hb3 hjl e1 e2 hst4 hn0 h92 hp
                go_wp2_with fail
                refine HGET.out.mono ?_
                rintro e w4 ⟨rfl, rfl⟩
                go_wp2_with fail
                go_roundg g3
                case measure => omega
                case rel => exact ⟨su2, j + 1, b, L3, rfl, rfl, by go_num, HR3⟩
              | false =>
                rw [hp] at HGET
                have HTE : Hid (TE G L w P r (L3.fwd j) (wr.setCell ⟨G.D, 3, none⟩ (.int .i64 ((L3.r1 : Int) + (j : Int)))) su2 (m + j)) := Lib.hid (by
                  obtain ⟨p1, p2⟩ := put3 HG.out HL.out hd hTM.go hnb j hjl _ rfl
                  obtain ⟨o, k1, k2⟩ := hTM.ei
                  have k3 := k1.stop hpl (by rw [hc]; exact h92) (by rw [hc]; exact hp)
                  refine ⟨p1, p2, hTM.se.trans (Sm.fwd L3 j).se, ⟨o, by rw [k3]; congr 1; omega, by rw [← Nat.add_assoc]; exact k2.same rfl⟩, ⟨hnb, ?_⟩⟩
                  show min (L3.base + (L3.r1 + j) + 1) G.T.length ≤ L3.base + L3.len
                  omega)
                clear hc hTM q1 q2 q3 hd hnb hb3 hjl e1 e2 hst4 hn0 h92 hp
                go_wp2_with fail
                refine HGET.out.mono ?_
                rintro e w4 ⟨rfl, rfl⟩
                go_wp2_with fail
                go_meet
                exact ⟨su2, m + j, L3.fwd j, rfl, HTE⟩
          · have hjz : ¬ (j : Int) < (b : Int) := by omega
            have hbj : j = b := by omega
            have HREL : Hid (m + b + (gO - b) = n0 ∧ gO - b < gO ∧ (DL G (L3.fwd b) (wr.setCell ⟨G.D, 3, none⟩ (.int .i64 ((L3.r1 : Int) + (b : Int)))) ∧ Go G L w (L3.fwd b) (wr.setCell ⟨G.D, 3, none⟩ (.int .i64 ((L3.r1 : Int) + (b : Int)))) ∧ Se L (L3.fwd b) (m + b) ∧ ∃ o, dm.Tk P r G.T L.pos (L.pos + (m + b)) o ∧ EI G L (L3.fwd b) (L.frm + su2) (L.pos + (m + b)) o)) := Lib.hid ⟨by omega, by omega, by
              have := hTM.fwd HG.out HL.out _ rfl
              rw [hbj] at this
              exact this⟩
            clear hTM q1 q2 q3 hd hnb hb3 hjl e1 e2 hst4 hn0 hbj
            go_wp2_with fail
            go_roundg (gO - b)
            case measure => have := HREL.out.2.1; omega
            case rel => exact ⟨su2, m + b, L3.fwd b, HREL.out.1, rfl, Lib.hid HREL.out.2.2⟩
      · rw [show decide (L1.pos + 1 ≤ G.T.length) = false by simpa using hlt] at he
        subst he
        have hTE : TE G L w P r L2 w2 su m := ⟨d1, i2.trans HL.out d2, by simpa using i3.trans d3.sm.se, ⟨o1, by
          have := i4.end (by have := HST.out; have := i1.r1l; have := i1.blen; unfold Lay.pos at *; omega)
          rw [this]; congr 1; omega, i5.same d3.esc⟩, d4⟩
        have HTE := Lib.hid hTE
        clear d1 d2 d3 d4 d5 d6 i1 i2 i3 i4 i5 hE hI hTM hp1 hlt HE1 hTE
        go_wp2_with fail
        go_meet
        exact ⟨su, m, L2, rfl, HTE⟩
  case rest =>
    as_aux_lemma =>
    obtain ⟨su, n, L3, rfl, HTE⟩ := hcut
    clear c0 c1 c2 c3 c4 c5 c6 c7 c8 c9
    obtain ⟨e11, he11⟩ : ∃ e11, L.esc.length = e11 := ⟨_, rfl⟩
    rw [he11]
    have HE11 := Lib.hid he11
    clear he11
    go_upto_region 25 with fail
    go_cut [16] from 169 to 183 (fun s16 wx => ∃ A x0 c, s16 = .slice (some ⟨A, x0, none⟩) n c ∧ Hid (TE G L w P r L3 wx su n ∧ Held G L3 wx (some ⟨A, x0, none⟩) (sub G.T L.pos (L.pos + n)) ∧ n ≤ c ∧ c ≤ 9223372036854775807))
    case first =>
      have hTE := HTE.out
      have hd := hTE.dl
      have hnb := hTE.av.1
      have hl3 := hd.lenle HG.out
      have hb3 := hd.blen
      have hbuf := (hd.buf hnb).1
      have hcap := hbuf.le
      rw [hd.blen'] at hcap
      have hlim := hbuf.lim
      have hblt := hbuf.lt
      have e1 := hTE.se.base
      have e2 := hTE.se.r1
      have e0 := hTE.se.r0
      obtain ⟨c0, c1, c2, c3, c4, c5, c6, c7, c8, c9⟩ := hd.cells
      rw [bufv_of hnb] at c1
      have hs1 := HST.out.1
      have hs2 := HST.out.2.1
      have hr13 := hd.r1l
      have hw0 : IntKind.i64.wrap ((L3.r0 : Int) + (st : Int)) = (L.r1 : Int) := by rw [IntKind.wrap_i64]; omega
      have hn3 : L3.r1 - L.r1 = n := by omega
      have hlh : (L.r1 : Int) ≤ (L3.r1 : Int) := by omega
      have hhc : (L3.r1 : Int) ≤ (L3.cap : Int) := by omega
      have HF : Hid (∀ x0 c q, (x0 ≤ L.r1 ∧ (n ≠ 0 → x0 = L.r1)) → n ≤ c → c ≤ 9223372036854775807 → TE G L w P r L3 (wc.drewN q) su n ∧ Held G L3 (wc.drewN q) (some ⟨L3.B, x0, none⟩) (sub G.T L.pos (L.pos + n)) ∧ n ≤ c ∧ c ≤ 9223372036854775807) := Lib.hid fun x0 c q hx h1 h2 => by
        have hq := hTE.quiet HL.out ((But.refl [] wc).drewN (n := q))
        refine ⟨hq, ⟨?_, fun A off e => ?_⟩, h1, h2⟩
        · have := hq.dl.bs hnb x0 L.r1 (L.r1 + n) (by omega) (by omega) (fun e => hx.2 (by omega))
          rw [e1, ← Nat.add_assoc, ← hs2] at this
          exact this
        · cases e
          exact ⟨hblt, .inl ⟨hnb, rfl, by rw [sub_len (by omega)]; omega⟩⟩
      have HCC := Lib.hid (show n ≤ L3.cap - L.r1 ∧ L3.cap - L.r1 ≤ 9223372036854775807 from ⟨by omega, by omega⟩)
      by_cases hcl : L3.cap = L.r1
      · have hn0' := Lib.hid (show n = 0 by omega)
        clear hTE hd hnb hb3 hbuf e1 e2 e0 hs1 hs2 hlim hblt hr13 hcap
        go_quiet (fail)
        go_wp2_with fail
        go_meet
        exact ⟨_, _, _, rfl, Lib.hid (HF.out _ _ _ ⟨Nat.zero_le _, fun h => absurd hn0'.out h⟩ (by rw [hn0'.out]; omega) (by omega))⟩
      · clear hTE hd hnb hb3 hbuf e1 e2 e0 hs1 hs2 hlim hblt hr13 hcap
        go_quiet (fail)
        go_wp2_with fail
        go_meet
        exact ⟨_, _, _, rfl, Lib.hid (HF.out _ _ _ ⟨Nat.le_refl _, fun _ => rfl⟩ HCC.out.1 HCC.out.2)⟩
    case rest =>
      obtain ⟨A, x0, c, rfl, hR⟩ := hcut
      have HNC := Lib.hid hR.out.2.2
      have HSB := Lib.hid (show L.pos + n ≤ G.T.length by
        have hTE := hR.out.1
        have := hTE.se.pos
        have := hTE.dl.blen
        have := hTE.dl.r1l
        unfold Lay.pos at *
        omega)
      clear HTE
      have HGET : Hid (Calls Tryz.prog 58 #[.pointer (some ⟨SB, 0, none⟩), .int .u8 10] wc fun e w' => e = .returned (.bool (P 10)) ∧ wc = w') := Lib.hid ((HS.out.step hR.out.1.go.toStep).get 10)
      go_upto_if 185 with fail
      refine HGET.out.mono ?_
      rintro e w4 ⟨rfl, rfl⟩
      clear HGET
      go_upto_if 185 with fail
      go_cut [] from 184 to 194 (fun wx => ∃ L5, Hid (TL G L w P r L5 wx su n A x0))
      case first =>
        have hTE := hR.out.1
        cases hp10 : P 10 with
        | false =>
          have HO : Hid (TL G L w P r L3 wc su n A x0) := Lib.hid ⟨hTE.dl, hTE.go, ⟨hTE.se.base, hTE.se.r0, hTE.se.r1, hTE.se.sec, hTE.se.sk, by unfold brk; rw [hp10]; exact hTE.se.line⟩, hTE.ei, hTE.av, hR.out.2.1⟩
          clear hTE hp10
          go_wp2_with fail
          go_meet
          exact ⟨L3, HO⟩
        | true =>
          obtain ⟨bk, hbk⟩ : ∃ bk, dm.breaks (sub G.T L.pos (L.pos + n)) = bk := ⟨_, rfl⟩
          have hbl := dm.breaks_le (sub G.T L.pos (L.pos + n))
          have hsl := sub_len (T := G.T) (a := L.pos) (b := L.pos + n) HSB.out
          have hT := HT.out
          have hsb := HSB.out
          have hlnx := HX.out.2
          have hln := hTE.se.line
          obtain ⟨c0, c1, c2, c3, c4, c5, c6, c7, c8, c9⟩ := hTE.dl.cells
          have z8 := Rw.fz hTE.dl.row 8
          obtain ⟨ln, hl0⟩ : ∃ ln, L3.line = ln := ⟨_, rfl⟩
          obtain ⟨ln2, hl2⟩ : ∃ ln2, ln + bk = ln2 := ⟨_, rfl⟩
          rw [hl0] at c8
          have hwl : IntKind.i64.wrap ((ln : Int) + (bk : Int)) = (ln2 : Int) := by rw [IntKind.wrap_i64]; omega
          have HCN : Hid (∀ wx, But [] wc wx → Calls Tryz.prog 82 #[.slice (some ⟨A, x0, none⟩) n c, .int .u8 10] wx fun e w' => e = .returned (.int .i64 (bk : Int)) ∧ wx = w') := Lib.hid fun wx hb => by
            have := countn (some ⟨A, x0, none⟩) c n (sub G.T L.pos (L.pos + n)) (by omega) (by omega) wx (hR.out.2.1.go hTE.dl (hTE.dl.quiet hb).2).bytes
            rw [hbk] at this
            exact this
          have HO : Hid (TL G L w P r { L3 with line := ln2 } (wc.drew.setCell ⟨G.D, 8, none⟩ (.int .i64 (ln2 : Int))) su n A x0) := Lib.hid (by
            have hp := (hTE.dl.drewN 1).put (L' := { L3 with line := ln2 }) 8 (.int .i64 (ln2 : Int)) rfl ⟨rfl, rfl, rfl, rfl, rfl, rfl, rfl, rfl, rfl, rfl⟩ (fun e => (by rw [show ({ L3 with line := ln2 } : Lay).nb = L3.nb from rfl, hTE.av.1] at e; cases e)) hTE.dl.r01 hTE.dl.r1l (by show ln2 ≤ 1000000; omega) HG.out
            refine ⟨hp.1, (hTE.go.trans HL.out (Go.drewN G L3 wc 1)).trans HL.out hp.2, ⟨hTE.se.base, hTE.se.r0, hTE.se.r1, hTE.se.sec, hTE.se.sk, ?_⟩, ?_, hTE.av, (hR.out.2.1.go hTE.dl (Go.drewN G L3 wc 1)).go (hTE.dl.drewN 1) hp.2⟩
            · unfold brk
              rw [if_pos hp10, hbk]
              show ln2 = L.line + bk
              omega
            · obtain ⟨o, o1, o2⟩ := hTE.ei
              exact ⟨o, o1, o2.same rfl⟩)
          clear hTE hp10 hbk hbl hsl hT hsb hlnx hln hl0 hl2 c0 c1 c2 c3 c4 c5 c6 c7 c9
          go_wp2_with fail
          go_region_with (go_at_call 82; (with_reducible refine (HCN.out _ (But.refl [] wc).drew).mono ?_); rintro e w5 ⟨rfl, rfl⟩)
          all_goals
            go_wp2_with fail
            go_meet
            exact ⟨_, HO⟩
      case rest =>
        obtain ⟨L5, hL5⟩ := hcut
        clear hR
        obtain ⟨en, hen⟩ : ∃ en, L5.esc.length = en := ⟨_, rfl⟩
        have HEN := Lib.hid hen
        have c7 := hL5.out.dl.cells.2.2.2.2.2.2.2.1
        rw [hen] at c7
        clear hen
        go_upto_if 201 with fail
        clear c7
        go_cut [16] from 195 to 230 (fun s16 wx => ∃ A2 x2 k c2 L6 o, s16 = .slice (some ⟨A2, x2, none⟩) k c2 ∧ Hid (TF G L w P r L6 wx o n A2 x2 k ∧ k ≤ c2 ∧ c2 ≤ 9223372036854775807))
        case first =>
          have hL := hL5.out
          have hnb := hL.av.1
          obtain ⟨o, o1, o2⟩ := hL.ei
          have i1 := o2.lo
          have i2 := o2.hi
          have i3 := o2.len
          have i4 := HX.out.1
          have i5 := HT.out
          have i6 := HE11.out
          have i7 := HSB.out
          have hsl := sub_len (T := G.T) (a := L.pos) (b := L.pos + n) i7
          have hen := HEN.out
          obtain ⟨c0, c1, c2, c3, c4, c5, c6, c7, c8, c9⟩ := hL.dl.cells
          have KEEP : L5.esc.length = e11 → sub G.T L.pos (L.pos + n) = cont G L o n → TF G L w P r L5 wc o n A x0 n ∧ n ≤ c ∧ c ≤ 9223372036854775807 := fun h1 h2 =>
            ⟨⟨hL.dl, hL.go, hL.st, o1, by omega, hL.av, by rw [← h2, hsl]; omega, by rw [← h2]; exact hL.held⟩, HNC.out⟩
          by_cases hgt : L5.esc.length = e11
          · have hk : sub G.T L.pos (L.pos + n) = cont G L o n := by
              unfold cont
              cases hsk : L.sk with
              | true => rw [if_pos rfl]
              | false =>
                rw [if_neg (by simp)]
                obtain ⟨E1, h1, h2, h3, h4⟩ := o2.un hsk
                have hE : E1 = [] := by
                  rw [h1, List.length_append] at hgt
                  exact List.eq_nil_of_length_eq_zero (by omega)
                rw [h2, h3 hE, hE]
                rfl
            have HO := Lib.hid (KEEP hgt hk)
            have hng : ¬ (e11 : Int) < (en : Int) := by omega
            clear hL o1 o2 hgt hk hen KEEP hnb i1 i2 i3 i4 i5 i6 i7 hsl
            go_wp2_with fail
            go_meet
            exact ⟨A, x0, n, c, L5, o, rfl, HO⟩
          · have hsk : L.sk = false := by
              cases hsk : L.sk with
              | false => rfl
              | true => exact absurd (by rw [(o2.sk hsk).1]; exact i6) hgt
            obtain ⟨E1, h1, h2, h3, h4⟩ := o2.un hsk
            have hle : (e11 : Int) < (en : Int) := by rw [← hen, h1, List.length_append]; rw [h1, List.length_append] at hgt; omega
            have hcap := (hL.dl.buf hnb).1.le
            rw [hL.dl.blen'] at hcap
            have hl5 := hL.dl.lenle HG.out
            have z7 := Rw.fz hL.dl.row 7
            rw [bufv_of hnb] at c1
            obtain ⟨lo, hlo⟩ : ∃ lo, L5.r0 + su = lo := ⟨_, rfl⟩
            obtain ⟨k, hk⟩ : ∃ k, L5.r1 - lo = k := ⟨_, rfl⟩
            obtain ⟨y, hy⟩ : ∃ y, sub G.T (L.frm + su) (L.pos + n) = y := ⟨_, rfl⟩
            have s1 := HST.out.2.1
            have s2 := HST.out.2.2.1
            have s3 := hL.st.r0
            have s4 := hL.st.r1
            have s5 := hL.st.base
            have s6 := hL.dl.r1l
            have hyl : y.length = k := by rw [← hy, sub_len i7]; omega
            obtain ⟨N, hN⟩ : ∃ N, en + k = N := ⟨_, rfl⟩
            have HYB : Hid (∀ x1, (k ≠ 0 → x1 = lo) → ∀ q z, y[q]? = some z → wc.drew.cell? ⟨L5.B, x1 + q, none⟩ = some (.int .u8 (z.toNat : Int))) := Lib.hid fun x1 hx1 => by
              have hbs := (hL.dl.drewN 1).bs hnb x1 lo L5.r1 (by omega) (by omega) (fun e => hx1 (by omega))
              rw [show L5.base + lo = L.frm + su by omega, show L5.base + L5.r1 = L.pos + n by omega, hy] at hbs
              rcases hbs with ⟨h1, h2⟩ | ⟨A, off, h1, h2⟩
              · cases h1
              · cases h1
                exact h2
            have hw1 : IntKind.i64.wrap ((su : Int) + (L5.r0 : Int)) = (lo : Int) := by rw [IntKind.wrap_i64]; omega
            have hlh : (lo : Int) ≤ (L5.r1 : Int) := by omega
            have hhc : (L5.r1 : Int) ≤ (L5.cap : Int) := by omega
            have hloc : lo ≤ L5.cap := by omega
            rw [hen] at c7
            have HNN := Lib.hid hN
            have HYL := Lib.hid hyl
            have hlim1 : en + k ≤ 60000 := by omega
            have HBUF := Lib.hid (show BufAt wc.drew L5.E L5.esc L5.ecap from (hL.dl.drewN 1).esc)
            have HSTO : Hid (∀ g cap' w', Hid (App wc.drew L5.E L5.esc y g cap' w') → w'.cell? ⟨G.D, 7, none⟩ = some (.slice (some ⟨L5.E, 0, none⟩) en L5.ecap) ∧ w'.frozen? ⟨G.D, 7, none⟩ = false ∧ w'.cell? ⟨G.D, 1, none⟩ = some (.slice (some ⟨L5.B, 0, none⟩) L5.len L5.cap) ∧ w'.cell? ⟨G.D, 2, none⟩ = some (.int .i64 (L5.r0 : Int)) ∧ w'.cell? ⟨G.D, 3, none⟩ = some (.int .i64 (L5.r1 : Int))) := Lib.hid fun g cap' w' hA => by
              have hrow := Rw.but (hL.dl.drewN 1).row hA.out.but (by simpa using hL.dl.DE)
              have h7 := Rw.cell hrow 7
              have h1 := Rw.cell hrow 1
              rw [← hen]
              refine ⟨h7, Rw.fz hrow 7, ?_, Rw.cell hrow 2, Rw.cell hrow 3⟩
              rw [← bufv_of hnb]
              exact h1
            have hesc : L5.esc ++ y = L.esc ++ o := by rw [h1, h2, hy]; simp
            have hol : o.length = N - e11 := by
              have := congrArg List.length hesc
              rw [List.length_append, List.length_append] at this
              omega
            have HN := Lib.hid (show (e11 : Int) < (N : Int) by omega)
            have HFIN : Hid (∀ g cap' w', Hid (App wc.drew L5.E L5.esc y g cap' w') → TF G L w P r (L5.more y g cap') (w'.setCell ⟨G.D, 7, none⟩ (.slice (some ⟨g, 0, none⟩) N cap')) o n g e11 (N - e11) ∧ N ≤ cap' ∧ cap' ≤ 9223372036854775807) := Lib.hid fun g cap' w' hA => by
              have hd := (hL.dl.drewN 1).app HG.out hA.out (by rw [List.length_append]; omega) N (by omega)
              have hc : cont G L o n = o := by unfold cont; rw [if_neg (by simp [hsk])]
              have hle := hA.out.buf.le
              rw [List.length_append] at hle
              refine ⟨⟨hd.1, (hL.go.trans HL.out (Go.drewN G L5 wc 1)).trans HL.out hd.2, ⟨hL.st.base, hL.st.r0, hL.st.r1, hL.st.sec, hL.st.sk, hL.st.line⟩, o1, ?_, hL.av, by rw [hc]; exact hol, ?_⟩, by omega, hA.out.buf.lim⟩
              · have h1 := (dm.tokL_le P r _ (G.T.drop L.pos) (Nat.le_refl _)).2.1
                rw [o1] at h1
                simp only at h1
                show (L5.esc ++ y).length ≤ _
                rw [hesc, List.length_append]; omega
              · rw [hc]
                refine ⟨.inr ⟨_, _, rfl, fun j x hx => ?_⟩, fun A off e => ?_⟩
                · refine hd.1.esc.bytes (e11 + j) x ?_
                  show (L5.esc ++ y)[e11 + j]? = some x
                  rw [hesc, List.getElem?_append_right (by omega), show e11 + j - L.esc.length = j by omega]
                  exact hx
                · cases e
                  refine ⟨hd.1.esc.lt, .inr (.inl ⟨rfl, ?_⟩)⟩
                  show e11 + o.length ≤ (L5.esc ++ y).length
                  rw [List.length_append]; omega
            clear hL o1 o2 hgt KEEP hnb i1 i2 i3 i4 i5 i6 i7 hsl hsk h1 h2 h3 h4 hlo hy s1 s2 s3 s4 s5 s6 hyl hen hN hesc hol hL5
            go_upto_region 29 with fail
            go_cut [] from 195 to 224 (fun wx => ∃ g cap', Hid (TF G L w P r (L5.more y g cap') wx o n g e11 (N - e11) ∧ N ≤ cap' ∧ cap' ≤ 9223372036854775807))
            case first =>
              by_cases hcl : L5.cap = lo
              · have hk0 : k = 0 := by omega
                have hhc2 : (L5.r1 : Int) ≤ (lo : Int) := by omega
                clear hhc
                have HYC := Lib.hid (HYB.out 0 (fun h => absurd hk0 h))
                clear hk0
                refine wp_region_held_drew (S := (fun wx => wx.cell? ⟨G.D, 1, none⟩ = some (.slice (some ⟨L5.B, 0, none⟩) L5.len L5.cap) ∧ wx.cell? ⟨G.D, 2, none⟩ = some (.int .i64 (L5.r0 : Int)) ∧ wx.cell? ⟨G.D, 3, none⟩ = some (.int .i64 (L5.r1 : Int)))) (by kernel_rfl) ?_ (fun hHeld => ?_)
                · exact ⟨c1, c2, c3⟩
                refine (show wpAnyH _ _ _ _ _ 24 (List.toArray [false, false, false, false, false, false, false, false, false, false, false, false, false, false, false, false, false, false, false, false, false, false, false, false]) _ _ from ?_)
                refine wpAnyH_take (i := 0) (v := ?_) rfl (by kernel_rfl) (by kernel_rfl) (by kernel_rfl) (fun _ _ _ h => h) (Or.inl ⟨by rfl, ?_⟩) hHeld ?_
                rotate_left
                · intro wz hSw; go_simp <;> with_reducible rfl
                simp only [List.getElem_toArray, List.getElem_cons_succ, List.getElem_cons_zero, Act.put, List.setIfInBounds_toArray, List.set_cons_zero, List.set_cons_succ]
                refine wpAnyH_take (i := 1) (v := ?_) rfl (by kernel_rfl) (by kernel_rfl) (by kernel_rfl) (fun _ _ _ h => h) (Or.inl ⟨by rfl, ?_⟩) hHeld ?_
                rotate_left
                · intro wz hSw; go_simp <;> with_reducible rfl
                simp only [List.getElem_toArray, List.getElem_cons_succ, List.getElem_cons_zero, Act.put, List.setIfInBounds_toArray, List.set_cons_zero, List.set_cons_succ]
                refine wpAnyH_take (i := 2) (v := ?_) rfl (by kernel_rfl) (by kernel_rfl) (by kernel_rfl) (fun _ _ _ h => h) (Or.inl ⟨by rfl, ?_⟩) hHeld ?_
                rotate_left
                · intro wz hSw; go_simp <;> with_reducible rfl
                simp only [List.getElem_toArray, List.getElem_cons_succ, List.getElem_cons_zero, Act.put, List.setIfInBounds_toArray, List.set_cons_zero, List.set_cons_succ]
                refine wpAnyH_take (i := 3) (v := ?_) rfl (by kernel_rfl) (by kernel_rfl) (by kernel_rfl) (fun _ _ _ h => h) (Or.inl ⟨by rfl, ?_⟩) hHeld ?_
                rotate_left
                · intro wz hSw; go_simp <;> with_reducible rfl
                simp only [List.getElem_toArray, List.getElem_cons_succ, List.getElem_cons_zero, Act.put, List.setIfInBounds_toArray, List.set_cons_zero, List.set_cons_succ]
                refine wpAnyH_take (i := 5) (v := ?_) rfl (by kernel_rfl) (by kernel_rfl) (by kernel_rfl) (fun _ _ _ h => h) (Or.inl ⟨by rfl, ?_⟩) hHeld ?_
                rotate_left
                · intro wz hSw; go_simp <;> with_reducible rfl
                simp only [List.getElem_toArray, List.getElem_cons_succ, List.getElem_cons_zero, Act.put, List.setIfInBounds_toArray, List.set_cons_zero, List.set_cons_succ]
                refine wpAnyH_take (i := 6) (v := ?_) rfl (by kernel_rfl) (by kernel_rfl) (by kernel_rfl) (fun _ _ _ h => h) (Or.inl ⟨by rfl, ?_⟩) hHeld ?_
                rotate_left
                · intro wz hSw; go_simp <;> with_reducible rfl
                simp only [List.getElem_toArray, List.getElem_cons_succ, List.getElem_cons_zero, Act.put, List.setIfInBounds_toArray, List.set_cons_zero, List.set_cons_succ]
                refine wpAnyH_take (i := 7) (v := ?_) rfl (by kernel_rfl) (by kernel_rfl) (by kernel_rfl) (fun _ _ _ h => h) (Or.inl ⟨by rfl, ?_⟩) hHeld ?_
                rotate_left
                · intro wz hSw; go_simp <;> with_reducible rfl
                simp only [List.getElem_toArray, List.getElem_cons_succ, List.getElem_cons_zero, Act.put, List.setIfInBounds_toArray, List.set_cons_zero, List.set_cons_succ]
                refine wpAnyH_take (i := 8) (v := ?_) rfl (by kernel_rfl) (by kernel_rfl) (by kernel_rfl) (fun _ _ _ h => h) (Or.inl ⟨by rfl, ?_⟩) hHeld ?_
                rotate_left
                · intro wz hSw; go_simp <;> with_reducible rfl
                simp only [List.getElem_toArray, List.getElem_cons_succ, List.getElem_cons_zero, Act.put, List.setIfInBounds_toArray, List.set_cons_zero, List.set_cons_succ]
                refine wpAnyH_take (i := 9) (v := ?_) rfl (by kernel_rfl) (by kernel_rfl) (by kernel_rfl) (fun _ _ _ h => h) (Or.inl ⟨by rfl, ?_⟩) hHeld ?_
                rotate_left
                · intro wz hSw; go_simp <;> with_reducible rfl
                simp only [List.getElem_toArray, List.getElem_cons_succ, List.getElem_cons_zero, Act.put, List.setIfInBounds_toArray, List.set_cons_zero, List.set_cons_succ]
                refine wpAnyH_take (i := 10) (v := ?_) rfl (by kernel_rfl) (by kernel_rfl) (by kernel_rfl) (fun _ _ _ h => h) (Or.inl ⟨by rfl, ?_⟩) hHeld ?_
                rotate_left
                · intro wz hSw; go_simp <;> with_reducible rfl
                simp only [List.getElem_toArray, List.getElem_cons_succ, List.getElem_cons_zero, Act.put, List.setIfInBounds_toArray, List.set_cons_zero, List.set_cons_succ]
                refine wpAnyH_take (i := 11) (v := ?_) rfl (by kernel_rfl) (by kernel_rfl) (by kernel_rfl) (fun _ _ _ h => h) (Or.inl ⟨by rfl, ?_⟩) hHeld ?_
                rotate_left
                · intro wz hSw; go_simp <;> with_reducible rfl
                simp only [List.getElem_toArray, List.getElem_cons_succ, List.getElem_cons_zero, Act.put, List.setIfInBounds_toArray, List.set_cons_zero, List.set_cons_succ]
                refine wpAnyH_take (i := 12) (v := ?_) rfl (by kernel_rfl) (by kernel_rfl) (by kernel_rfl) (fun _ _ _ h => h) (Or.inl ⟨by rfl, ?_⟩) hHeld ?_
                rotate_left
                · intro wz hSw; go_simp <;> with_reducible rfl
                simp only [List.getElem_toArray, List.getElem_cons_succ, List.getElem_cons_zero, Act.put, List.setIfInBounds_toArray, List.set_cons_zero, List.set_cons_succ]
                refine wpAnyH_take (i := 13) (v := ?_) rfl (by kernel_rfl) (by kernel_rfl) (by kernel_rfl) (fun _ _ _ h => h) (Or.inl ⟨by rfl, ?_⟩) hHeld ?_
                rotate_left
                · intro wz hSw; go_simp <;> with_reducible rfl
                simp only [List.getElem_toArray, List.getElem_cons_succ, List.getElem_cons_zero, Act.put, List.setIfInBounds_toArray, List.set_cons_zero, List.set_cons_succ]
                refine wpAnyH_take (i := 14) (v := ?_) rfl (by kernel_rfl) (by kernel_rfl) (by kernel_rfl) (fun _ _ _ h => h) (Or.inl ⟨by rfl, ?_⟩) hHeld ?_
                rotate_left
                · intro wz hSw; go_simp <;> with_reducible rfl
                simp only [List.getElem_toArray, List.getElem_cons_succ, List.getElem_cons_zero, Act.put, List.setIfInBounds_toArray, List.set_cons_zero, List.set_cons_succ]
                refine wpAnyH_take (i := 15) (v := ?_) rfl (by kernel_rfl) (by kernel_rfl) (by kernel_rfl) (fun _ _ _ h => h) (Or.inl ⟨by rfl, ?_⟩) hHeld ?_
                rotate_left
                · intro wz hSw; go_simp <;> with_reducible rfl
                simp only [List.getElem_toArray, List.getElem_cons_succ, List.getElem_cons_zero, Act.put, List.setIfInBounds_toArray, List.set_cons_zero, List.set_cons_succ]
                refine wpAnyH_take (i := 16) (v := ?_) rfl (by kernel_rfl) (by kernel_rfl) (by kernel_rfl) (fun _ _ _ h => h) (Or.inl ⟨by rfl, ?_⟩) hHeld ?_
                rotate_left
                · intro wz hSw; go_simp <;> with_reducible rfl
                simp only [List.getElem_toArray, List.getElem_cons_succ, List.getElem_cons_zero, Act.put, List.setIfInBounds_toArray, List.set_cons_zero, List.set_cons_succ]
                refine wpAnyH_take (i := 17) (v := ?_) rfl (by kernel_rfl) (by kernel_rfl) (by kernel_rfl) (fun _ _ _ h => h) (Or.inl ⟨by rfl, ?_⟩) hHeld ?_
                rotate_left
                · intro wz hSw; go_simp <;> with_reducible rfl
                simp only [List.getElem_toArray, List.getElem_cons_succ, List.getElem_cons_zero, Act.put, List.setIfInBounds_toArray, List.set_cons_zero, List.set_cons_succ]
                refine wpAnyH_take (i := 18) (v := ?_) rfl (by kernel_rfl) (by kernel_rfl) (by kernel_rfl) (fun _ _ _ h => h) (Or.inl ⟨by rfl, ?_⟩) hHeld ?_
                rotate_left
                · intro wz hSw; go_simp <;> with_reducible rfl
                simp only [List.getElem_toArray, List.getElem_cons_succ, List.getElem_cons_zero, Act.put, List.setIfInBounds_toArray, List.set_cons_zero, List.set_cons_succ]
                refine wpAnyH_take (i := 19) (v := ?_) rfl (by kernel_rfl) (by kernel_rfl) (by kernel_rfl) (fun _ _ _ h => h) (Or.inl ⟨by rfl, ?_⟩) hHeld ?_
                rotate_left
                · intro wz hSw; go_simp <;> with_reducible rfl
                simp only [List.getElem_toArray, List.getElem_cons_succ, List.getElem_cons_zero, Act.put, List.setIfInBounds_toArray, List.set_cons_zero, List.set_cons_succ]
                refine wpAnyH_ready (rs := [4]) (by kernel_rfl) (by simp) (AllReadyH.cons rfl (fun K hK => ?_) AllReadyH.nil)
                go_simp
                refine hK.out _ _ ?_ (fun hHeld => ?_)
                · first | exact hHeld | exact (HSTO.out _ _ _ (by assumption)).2.2 | exact ⟨(World.cell?_setCell_other _ _ _ _ (by simp)).trans hHeld.1, (World.cell?_setCell_other _ _ _ _ (by simp)).trans hHeld.2.1, (World.cell?_setCell_other _ _ _ _ (by simp)).trans hHeld.2.2⟩
                clear hK K
                refine wpAnyH_ready (rs := [20]) (by kernel_rfl) (by simp) (AllReadyH.cons rfl (fun K hK => ?_) AllReadyH.nil)
                refine step_esc (by rfl) _ _ (by rfl) L5.E en L5.ecap L5.esc (by rfl) HEN.out HBUF.out L5.B 0 k _ y (by rfl) HYC.out HYL.out (by omega) N HNN.out ?_; intro g5 cap5 w5 hA5; have c75 := (HSTO.out _ _ _ hA5).1; have z75 := (HSTO.out _ _ _ hA5).2.1
                refine hK.out _ _ ?_ (fun hHeld => ?_)
                · first | exact hHeld | exact (HSTO.out _ _ _ (by assumption)).2.2 | exact ⟨(World.cell?_setCell_other _ _ _ _ (by simp)).trans hHeld.1, (World.cell?_setCell_other _ _ _ _ (by simp)).trans hHeld.2.1, (World.cell?_setCell_other _ _ _ _ (by simp)).trans hHeld.2.2⟩
                clear hK K
                refine wpAnyH_take (i := 21) (v := ?_) rfl (by kernel_rfl) (by kernel_rfl) (by kernel_rfl) (fun _ _ _ h => h) (Or.inl ⟨by rfl, ?_⟩) hHeld ?_
                rotate_left
                · intro wz hSw; go_simp <;> with_reducible rfl
                simp only [List.getElem_toArray, List.getElem_cons_succ, List.getElem_cons_zero, Act.put, List.setIfInBounds_toArray, List.set_cons_zero, List.set_cons_succ]
                refine wpAnyH_take (i := 22) (v := ?_) rfl (by kernel_rfl) (by kernel_rfl) (by kernel_rfl) (fun _ _ _ h => h) (Or.inl ⟨by rfl, ?_⟩) hHeld ?_
                rotate_left
                · intro wz hSw; go_simp <;> with_reducible rfl
                simp only [List.getElem_toArray, List.getElem_cons_succ, List.getElem_cons_zero, Act.put, List.setIfInBounds_toArray, List.set_cons_zero, List.set_cons_succ]
                refine wpAnyH_ready (rs := [23]) (by kernel_rfl) (by simp) (AllReadyH.cons rfl (fun K hK => ?_) AllReadyH.nil)
                go_simp
                refine hK.out _ _ ?_ (fun hHeld => ?_)
                · first | exact hHeld | exact (HSTO.out _ _ _ (by assumption)).2.2 | exact ⟨(World.cell?_setCell_other _ _ _ _ (by simp)).trans hHeld.1, (World.cell?_setCell_other _ _ _ _ (by simp)).trans hHeld.2.1, (World.cell?_setCell_other _ _ _ _ (by simp)).trans hHeld.2.2⟩
                clear hK K
                refine wpAnyH_done (by kernel_rfl) ?_ _
                go_wp2_with fail
                go_meet
                exact ⟨g5, cap5, Lib.hid (HFIN.out _ _ _ hA5)⟩
              · have HYC := Lib.hid (HYB.out lo (fun _ => rfl))
                refine wp_region_held_drew (S := (fun wx => wx.cell? ⟨G.D, 1, none⟩ = some (.slice (some ⟨L5.B, 0, none⟩) L5.len L5.cap) ∧ wx.cell? ⟨G.D, 2, none⟩ = some (.int .i64 (L5.r0 : Int)) ∧ wx.cell? ⟨G.D, 3, none⟩ = some (.int .i64 (L5.r1 : Int)))) (by kernel_rfl) ?_ (fun hHeld => ?_)
                · exact ⟨c1, c2, c3⟩
                refine (show wpAnyH _ _ _ _ _ 24 (List.toArray [false, false, false, false, false, false, false, false, false, false, false, false, false, false, false, false, false, false, false, false, false, false, false, false]) _ _ from ?_)
                refine wpAnyH_take (i := 0) (v := ?_) rfl (by kernel_rfl) (by kernel_rfl) (by kernel_rfl) (fun _ _ _ h => h) (Or.inl ⟨by rfl, ?_⟩) hHeld ?_
                rotate_left
                · intro wz hSw; go_simp <;> with_reducible rfl
                simp only [List.getElem_toArray, List.getElem_cons_succ, List.getElem_cons_zero, Act.put, List.setIfInBounds_toArray, List.set_cons_zero, List.set_cons_succ]
                refine wpAnyH_take (i := 1) (v := ?_) rfl (by kernel_rfl) (by kernel_rfl) (by kernel_rfl) (fun _ _ _ h => h) (Or.inl ⟨by rfl, ?_⟩) hHeld ?_
                rotate_left
                · intro wz hSw; go_simp <;> with_reducible rfl
                simp only [List.getElem_toArray, List.getElem_cons_succ, List.getElem_cons_zero, Act.put, List.setIfInBounds_toArray, List.set_cons_zero, List.set_cons_succ]
                refine wpAnyH_take (i := 2) (v := ?_) rfl (by kernel_rfl) (by kernel_rfl) (by kernel_rfl) (fun _ _ _ h => h) (Or.inl ⟨by rfl, ?_⟩) hHeld ?_
                rotate_left
                · intro wz hSw; go_simp <;> with_reducible rfl
                simp only [List.getElem_toArray, List.getElem_cons_succ, List.getElem_cons_zero, Act.put, List.setIfInBounds_toArray, List.set_cons_zero, List.set_cons_succ]
                refine wpAnyH_take (i := 3) (v := ?_) rfl (by kernel_rfl) (by kernel_rfl) (by kernel_rfl) (fun _ _ _ h => h) (Or.inl ⟨by rfl, ?_⟩) hHeld ?_
                rotate_left
                · intro wz hSw; go_simp <;> with_reducible rfl
                simp only [List.getElem_toArray, List.getElem_cons_succ, List.getElem_cons_zero, Act.put, List.setIfInBounds_toArray, List.set_cons_zero, List.set_cons_succ]
                refine wpAnyH_take (i := 5) (v := ?_) rfl (by kernel_rfl) (by kernel_rfl) (by kernel_rfl) (fun _ _ _ h => h) (Or.inl ⟨by rfl, ?_⟩) hHeld ?_
                rotate_left
                · intro wz hSw; go_simp <;> with_reducible rfl
                simp only [List.getElem_toArray, List.getElem_cons_succ, List.getElem_cons_zero, Act.put, List.setIfInBounds_toArray, List.set_cons_zero, List.set_cons_succ]
                refine wpAnyH_take (i := 6) (v := ?_) rfl (by kernel_rfl) (by kernel_rfl) (by kernel_rfl) (fun _ _ _ h => h) (Or.inl ⟨by rfl, ?_⟩) hHeld ?_
                rotate_left
                · intro wz hSw; go_simp <;> with_reducible rfl
                simp only [List.getElem_toArray, List.getElem_cons_succ, List.getElem_cons_zero, Act.put, List.setIfInBounds_toArray, List.set_cons_zero, List.set_cons_succ]
                refine wpAnyH_take (i := 7) (v := ?_) rfl (by kernel_rfl) (by kernel_rfl) (by kernel_rfl) (fun _ _ _ h => h) (Or.inl ⟨by rfl, ?_⟩) hHeld ?_
                rotate_left
                · intro wz hSw; go_simp <;> with_reducible rfl
                simp only [List.getElem_toArray, List.getElem_cons_succ, List.getElem_cons_zero, Act.put, List.setIfInBounds_toArray, List.set_cons_zero, List.set_cons_succ]
                refine wpAnyH_take (i := 8) (v := ?_) rfl (by kernel_rfl) (by kernel_rfl) (by kernel_rfl) (fun _ _ _ h => h) (Or.inl ⟨by rfl, ?_⟩) hHeld ?_
                rotate_left
                · intro wz hSw; go_simp <;> with_reducible rfl
                simp only [List.getElem_toArray, List.getElem_cons_succ, List.getElem_cons_zero, Act.put, List.setIfInBounds_toArray, List.set_cons_zero, List.set_cons_succ]
                refine wpAnyH_take (i := 9) (v := ?_) rfl (by kernel_rfl) (by kernel_rfl) (by kernel_rfl) (fun _ _ _ h => h) (Or.inl ⟨by rfl, ?_⟩) hHeld ?_
                rotate_left
                · intro wz hSw; go_simp <;> with_reducible rfl
                simp only [List.getElem_toArray, List.getElem_cons_succ, List.getElem_cons_zero, Act.put, List.setIfInBounds_toArray, List.set_cons_zero, List.set_cons_succ]
                refine wpAnyH_take (i := 10) (v := ?_) rfl (by kernel_rfl) (by kernel_rfl) (by kernel_rfl) (fun _ _ _ h => h) (Or.inl ⟨by rfl, ?_⟩) hHeld ?_
                rotate_left
                · intro wz hSw; go_simp <;> with_reducible rfl
                simp only [List.getElem_toArray, List.getElem_cons_succ, List.getElem_cons_zero, Act.put, List.setIfInBounds_toArray, List.set_cons_zero, List.set_cons_succ]
                refine wpAnyH_take (i := 11) (v := ?_) rfl (by kernel_rfl) (by kernel_rfl) (by kernel_rfl) (fun _ _ _ h => h) (Or.inl ⟨by rfl, ?_⟩) hHeld ?_
                rotate_left
                · intro wz hSw; go_simp <;> with_reducible rfl
                simp only [List.getElem_toArray, List.getElem_cons_succ, List.getElem_cons_zero, Act.put, List.setIfInBounds_toArray, List.set_cons_zero, List.set_cons_succ]
                refine wpAnyH_take (i := 12) (v := ?_) rfl (by kernel_rfl) (by kernel_rfl) (by kernel_rfl) (fun _ _ _ h => h) (Or.inl ⟨by rfl, ?_⟩) hHeld ?_
                rotate_left
                · intro wz hSw; go_simp <;> with_reducible rfl
                simp only [List.getElem_toArray, List.getElem_cons_succ, List.getElem_cons_zero, Act.put, List.setIfInBounds_toArray, List.set_cons_zero, List.set_cons_succ]
                refine wpAnyH_take (i := 13) (v := ?_) rfl (by kernel_rfl) (by kernel_rfl) (by kernel_rfl) (fun _ _ _ h => h) (Or.inl ⟨by rfl, ?_⟩) hHeld ?_
                rotate_left
                · intro wz hSw; go_simp <;> with_reducible rfl
                simp only [List.getElem_toArray, List.getElem_cons_succ, List.getElem_cons_zero, Act.put, List.setIfInBounds_toArray, List.set_cons_zero, List.set_cons_succ]
                refine wpAnyH_take (i := 14) (v := ?_) rfl (by kernel_rfl) (by kernel_rfl) (by kernel_rfl) (fun _ _ _ h => h) (Or.inl ⟨by rfl, ?_⟩) hHeld ?_
                rotate_left
                · intro wz hSw; go_simp <;> with_reducible rfl
                simp only [List.getElem_toArray, List.getElem_cons_succ, List.getElem_cons_zero, Act.put, List.setIfInBounds_toArray, List.set_cons_zero, List.set_cons_succ]
                refine wpAnyH_take (i := 15) (v := ?_) rfl (by kernel_rfl) (by kernel_rfl) (by kernel_rfl) (fun _ _ _ h => h) (Or.inl ⟨by rfl, ?_⟩) hHeld ?_
                rotate_left
                · intro wz hSw; go_simp <;> with_reducible rfl
                simp only [List.getElem_toArray, List.getElem_cons_succ, List.getElem_cons_zero, Act.put, List.setIfInBounds_toArray, List.set_cons_zero, List.set_cons_succ]
                refine wpAnyH_take (i := 16) (v := ?_) rfl (by kernel_rfl) (by kernel_rfl) (by kernel_rfl) (fun _ _ _ h => h) (Or.inl ⟨by rfl, ?_⟩) hHeld ?_
                rotate_left
                · intro wz hSw; go_simp <;> with_reducible rfl
                simp only [List.getElem_toArray, List.getElem_cons_succ, List.getElem_cons_zero, Act.put, List.setIfInBounds_toArray, List.set_cons_zero, List.set_cons_succ]
                refine wpAnyH_take (i := 17) (v := ?_) rfl (by kernel_rfl) (by kernel_rfl) (by kernel_rfl) (fun _ _ _ h => h) (Or.inl ⟨by rfl, ?_⟩) hHeld ?_
                rotate_left
                · intro wz hSw; go_simp <;> with_reducible rfl
                simp only [List.getElem_toArray, List.getElem_cons_succ, List.getElem_cons_zero, Act.put, List.setIfInBounds_toArray, List.set_cons_zero, List.set_cons_succ]
                refine wpAnyH_take (i := 18) (v := ?_) rfl (by kernel_rfl) (by kernel_rfl) (by kernel_rfl) (fun _ _ _ h => h) (Or.inl ⟨by rfl, ?_⟩) hHeld ?_
                rotate_left
                · intro wz hSw; go_simp <;> with_reducible rfl
                simp only [List.getElem_toArray, List.getElem_cons_succ, List.getElem_cons_zero, Act.put, List.setIfInBounds_toArray, List.set_cons_zero, List.set_cons_succ]
                refine wpAnyH_take (i := 19) (v := ?_) rfl (by kernel_rfl) (by kernel_rfl) (by kernel_rfl) (fun _ _ _ h => h) (Or.inl ⟨by rfl, ?_⟩) hHeld ?_
                rotate_left
                · intro wz hSw; go_simp <;> with_reducible rfl
                simp only [List.getElem_toArray, List.getElem_cons_succ, List.getElem_cons_zero, Act.put, List.setIfInBounds_toArray, List.set_cons_zero, List.set_cons_succ]
                refine wpAnyH_ready (rs := [4]) (by kernel_rfl) (by simp) (AllReadyH.cons rfl (fun K hK => ?_) AllReadyH.nil)
                go_simp
                refine hK.out _ _ ?_ (fun hHeld => ?_)
                · first | exact hHeld | exact (HSTO.out _ _ _ (by assumption)).2.2 | exact ⟨(World.cell?_setCell_other _ _ _ _ (by simp)).trans hHeld.1, (World.cell?_setCell_other _ _ _ _ (by simp)).trans hHeld.2.1, (World.cell?_setCell_other _ _ _ _ (by simp)).trans hHeld.2.2⟩
                clear hK K
                refine wpAnyH_ready (rs := [20]) (by kernel_rfl) (by simp) (AllReadyH.cons rfl (fun K hK => ?_) AllReadyH.nil)
                refine step_esc (by rfl) _ _ (by rfl) L5.E en L5.ecap L5.esc (by rfl) HEN.out HBUF.out L5.B lo k _ y (by rfl) HYC.out HYL.out (by omega) N HNN.out ?_; intro g5 cap5 w5 hA5; have c75 := (HSTO.out _ _ _ hA5).1; have z75 := (HSTO.out _ _ _ hA5).2.1
                refine hK.out _ _ ?_ (fun hHeld => ?_)
                · first | exact hHeld | exact (HSTO.out _ _ _ (by assumption)).2.2 | exact ⟨(World.cell?_setCell_other _ _ _ _ (by simp)).trans hHeld.1, (World.cell?_setCell_other _ _ _ _ (by simp)).trans hHeld.2.1, (World.cell?_setCell_other _ _ _ _ (by simp)).trans hHeld.2.2⟩
                clear hK K
                refine wpAnyH_take (i := 21) (v := ?_) rfl (by kernel_rfl) (by kernel_rfl) (by kernel_rfl) (fun _ _ _ h => h) (Or.inl ⟨by rfl, ?_⟩) hHeld ?_
                rotate_left
                · intro wz hSw; go_simp <;> with_reducible rfl
                simp only [List.getElem_toArray, List.getElem_cons_succ, List.getElem_cons_zero, Act.put, List.setIfInBounds_toArray, List.set_cons_zero, List.set_cons_succ]
                refine wpAnyH_take (i := 22) (v := ?_) rfl (by kernel_rfl) (by kernel_rfl) (by kernel_rfl) (fun _ _ _ h => h) (Or.inl ⟨by rfl, ?_⟩) hHeld ?_
                rotate_left
                · intro wz hSw; go_simp <;> with_reducible rfl
                simp only [List.getElem_toArray, List.getElem_cons_succ, List.getElem_cons_zero, Act.put, List.setIfInBounds_toArray, List.set_cons_zero, List.set_cons_succ]
                refine wpAnyH_ready (rs := [23]) (by kernel_rfl) (by simp) (AllReadyH.cons rfl (fun K hK => ?_) AllReadyH.nil)
                go_simp
                refine hK.out _ _ ?_ (fun hHeld => ?_)
                · first | exact hHeld | exact (HSTO.out _ _ _ (by assumption)).2.2 | exact ⟨(World.cell?_setCell_other _ _ _ _ (by simp)).trans hHeld.1, (World.cell?_setCell_other _ _ _ _ (by simp)).trans hHeld.2.1, (World.cell?_setCell_other _ _ _ _ (by simp)).trans hHeld.2.2⟩
                clear hK K
                refine wpAnyH_done (by kernel_rfl) ?_ _
                go_wp2_with fail
                go_meet
                exact ⟨g5, cap5, Lib.hid (HFIN.out _ _ _ hA5)⟩
            case rest =>
              obtain ⟨g5, cap5, hF⟩ := hcut
              clear c0 c1 c2 c3 c4 c5 c6 c7 c8 c9
              obtain ⟨c0, c1, c2, c3, c4, c5, c6, c7, c8, c9⟩ := hF.out.1.dl.cells
              rw [show (L5.more y g5 cap5).esc.length = N by show (L5.esc ++ y).length = N; rw [List.length_append, HEN.out, HYL.out]; exact HNN.out] at c7
              have c7' : wc.cell? ⟨G.D, 7, none⟩ = some (.slice (some ⟨g5, 0, none⟩) N cap5) := c7
              have hN2 := HN.out
              have hle2 : (e11 : Int) ≤ (N : Int) := by omega
              have hcl : ¬ cap5 = e11 := by have := hF.out.2.1; omega
              clear c7
              go_wp2_with fail
              go_meet
              exact ⟨g5, e11, N - e11, cap5 - e11, _, o, rfl, Lib.hid ⟨hF.out.1, by have := hF.out.2.1; omega, by have := hF.out.2.2; omega⟩⟩
        case rest =>
          obtain ⟨A2, x2, k, c2, L6, o, rfl, hF⟩ := hcut
          have hT := hF.out.1
          have hol : (cont G L o n).length ≤ 4000 := by
            have h1 := (dm.tokL_le P r _ (G.T.drop L.pos) (Nat.le_refl _)).2.1
            have h2 := HSB.out
            have h3 := HT.out
            rw [hT.tok] at h1
            simp only at h1
            unfold cont
            cases L.sk with
            | true => rw [if_pos rfl, sub_len h2]; omega
            | false => rw [if_neg (by simp)]; omega
          have HV : Hid (Calls Tryz.prog 83 #[.slice (some ⟨A2, x2, none⟩) k c2] wc fun e w' => e = .returned (.bool (utf.V (cont G L o n))) ∧ But [] wc w') := Lib.hid (by
            have hsz : (⟨(cont G L o n).toArray⟩ : ByteArray).size = k := by
              show (cont G L o n).toArray.size = k
              rw [List.size_toArray]; exact hT.len
            have := utf.valid35 A2 x2 c2 ⟨(cont G L o n).toArray⟩ wc hT.held.src (hT.held.loc _ _ rfl).1 (by rw [hsz]; exact hF.out.2.1) (by rw [hsz, ← hT.len]; omega) hF.out.2.2 (HG.out.tabs' hT.dl.bel)
            rw [hsz] at this
            exact this.mono fun e w' h => ⟨h.1, But.ofBelow h.2⟩)
          have hst := HST.out.2.2.2.1
          cases hv : utf.V (cont G L o n) with
          | true =>
            rw [hv] at HV
            have HO : Hid (∀ wx, But [] wc wx → ∃ L' o' m, Escd G L w P r L' wx o' m (some ⟨A2, x2, none⟩) k .nilIface) := Lib.hid fun wx hb => by
              have hQ := hT.quiet HL.out hb
              exact ⟨L6, o, n, hQ.dl, hQ.go, hQ.st.base, hQ.st.r0, hQ.st.r1, hQ.st.sk, hQ.st.line, hQ.tok, hQ.esc, hQ.av, hQ.len, hQ.held, .inl ⟨hv, rfl, hQ.st.sec⟩⟩
            clear hT hol hv hF hL5 hst
            go_wp2_with fail
            refine HV.out.mono ?_
            rintro e w4 ⟨rfl, hb4⟩
            have HB4 := Lib.hid hb4
            clear hb4
            go_wp2_with fail
            try rw [Exit.noGoto_ret]
            go_ret3
            exact ⟨some ⟨A2, x2, none⟩, k, c2, .nilIface, by rw [show L.r1 - L.r0 = st by have := HST.out.1; omega]; rfl, Lib.hid (HO.out _ HB4.out)⟩
          | false =>
            rw [hv] at HV
            have hr1 : L6.r0 + st ≤ L6.r1 := by
              have h1 := HST.out.1
              have h2 := hT.st.r0
              have h3 := hT.st.r1
              omega
            have HT6 := Lib.hid hT
            have HO : Hid (∀ w5 w6 v, TF G L w P r L6 w5 o n A2 x2 k → DL G L6.bad w6 ∧ Go G L6 w5 L6.bad w6 ∧ ErrAt G L6.bad w6 v ((L6.line : Int) - (dm.breaks (sub G.T (L6.frm + st) L6.pos) : Int)) ((dm.colF (sub G.T L6.frm (L6.frm + st)) : Int) + 1) → ∃ L' o' m, Escd G L w P r L' w6 o' m (some ⟨A2, x2, none⟩) k v) := Lib.hid fun w5 w6 v hq hS => by
              obtain ⟨s1, s2, s3⟩ := hS
              have hf : L6.frm = L.frm := by unfold Lay.frm; rw [hq.st.base, hq.st.r0]
              have hp : L6.pos = L.pos + n := by unfold Lay.pos; rw [hq.st.base, hq.st.r1]; omega
              rw [hf, hst, hp] at s3
              refine ⟨L6.bad, o, n, s1, hq.go.trans HL.out s2, hq.st.base, hq.st.r0, hq.st.r1, hq.st.sk, hq.st.line, hq.tok, hq.esc, hq.av, hq.len, hq.held.go hq.dl s2, .inr ⟨hv, ?_, s3⟩⟩
              show (if L6.sec = 5 then 5 else 4) = (if L.sec = 5 then 5 else 4)
              rw [hq.st.sec]
            have HR1 := Lib.hid hr1
            clear hT hol hv hF hL5 hst hr1
            go_wp2_with fail
            refine HV.out.mono ?_
            rintro e w4 ⟨rfl, hb4⟩
            have HQ4 := Lib.hid (HT6.out.quiet HL.out hb4)
            clear hb4
            go_wp2_with fail
            refine (new37r _ _).mono ?_
            rintro e w5 ⟨rfl, hb5, hr5⟩
            have HQ5 := Lib.hid (HQ4.out.quiet HL.out hb5)
            have HR5 := Lib.hid hr5
            clear hb5 hr5
            go_wp2_with fail
            refine (syn36 G HG.out L6 w5 HQ5.out.dl HQ5.out.av.1 st HR1.out _ _ HQ4.out.dl.bel.size HR5.out (fresh_own HQ4.out.dl (Nat.le_refl _))).mono ?_
            rintro e w6 ⟨v, rfl, hS⟩
            go_wp2_with fail
            try rw [Exit.noGoto_ret]
            go_ret3
            exact ⟨some ⟨A2, x2, none⟩, k, c2, v, by rw [show L.r1 - L.r0 = st by have := HST.out.1; omega]; rfl, Lib.hid (HO.out _ _ _ HQ5.out hS.out)⟩
end Go.Proofs.YtlcbcgillekphaaGreatDoor.dec
