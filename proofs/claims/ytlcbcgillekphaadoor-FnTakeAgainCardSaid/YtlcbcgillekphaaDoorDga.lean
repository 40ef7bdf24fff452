/-
  Proved: the contract of the decoder's takeEOL.
  Conditions: a decoder in memory.
-/
import Derived.Test.YtlcbcgillekphaaDoorDfa
namespace Go.Proofs.YtlcbcgillekphaaDoor.dec
open Go.RowKit Mem rw
set_option linter.unusedVariables false

/-- What a step on whole lines leaves of a decoder's lay. -/
structure Ln (L L' : Lay) (n b : Nat) : Prop where
  base : L'.base = L.base
  r0 : L'.r0 = L.r0
  r1 : L'.r1 = L.r1 + n
  sec : L'.sec = L.sec
  sk : L'.sk = L.sk
  line : L'.line = L.line + b
  esc : L'.esc = L.esc
theorem Ln.refl (L : Lay) : Ln L L 0 0 := ⟨rfl, rfl, rfl, rfl, rfl, rfl, rfl⟩
theorem Ln.trans {L L1 L2 : Lay} {n m b c : Nat} (a : Ln L L1 n b) (k : Ln L1 L2 m c) : Ln L L2 (n + m) (b + c) :=
  ⟨k.base.trans a.base, k.r0.trans a.r0, by rw [k.r1, a.r1]; omega, k.sec.trans a.sec, k.sk.trans a.sk, by rw [k.line, a.line]; omega, k.esc.trans a.esc⟩
theorem Sm.ln {L L' : Lay} {n : Nat} (h : Sm L L' n) : Ln L L' n 0 := ⟨h.base, h.r0, h.r1, h.sec, h.sk, h.line, h.esc⟩
theorem Ln.pos {L L' : Lay} {n b : Nat} (h : Ln L L' n b) : L'.pos = L.pos + n := by unfold Lay.pos; rw [h.base, h.r1]; omega
theorem Ln.frm {L L' : Lay} {n b : Nat} (h : Ln L L' n b) : L'.frm = L.frm := by unfold Lay.frm; rw [h.base, h.r0]
/-- The cell of the line. -/
def Lay.down (L : Lay) : Lay := { L with line := L.line + 1 }
theorem DL.down {G : Cfg} (hG : Base G) {L : Lay} {w : World} (h : DL G L w) (hn : L.nb = false) (hl : L.line < 1000000) : DL G L.down (w.setCell ⟨G.D, 8, none⟩ (.int .i64 ((L.line : Int) + 1))) ∧ Go G L w L.down (w.setCell ⟨G.D, 8, none⟩ (.int .i64 ((L.line : Int) + 1))) :=
  h.put (L' := L.down) 8 (.int .i64 ((L.line : Int) + 1)) (by
    have e : ((L.line + 1 : Nat) : Int) = (L.line : Int) + 1 := by omega
    unfold Lay.cells
    simp only [Lay.down, e]
    rfl) ⟨rfl, rfl, rfl, rfl, rfl, rfl, rfl, rfl, rfl, rfl⟩ (fun e => (by rw [show L.down.nb = L.nb from rfl, hn] at e; cases e)) h.r01 h.r1l (by show L.line + 1 ≤ 1000000; omega) hG
theorem Ln.down (L : Lay) : Ln L L.down 0 1 := ⟨rfl, rfl, rfl, rfl, rfl, rfl, rfl⟩
/-- How many bytes an end of a line has. -/
def eolN (l : List UInt8) : Nat := (dm.eol l).getD 0
def eolB (l : List UInt8) : Nat := dm.breaks (l.take (eolN l))
theorem drop_at {T : List UInt8} {p : Nat} (h : p < T.length) : T.drop p = T.getD p 0 :: T.drop (p + 1) := by
  rw [List.drop_eq_getElem_cons h, T_get h]
def EolOut (G : Cfg) (L : Lay) (w : World) (e : Ending) (w' : World) : Prop :=
  e = .returned (.bool (dm.eol (G.T.drop L.pos)).isSome) ∧ Hid (∃ L', DL G L' w' ∧ Go G L w L' w' ∧ Ln L L' (eolN (G.T.drop L.pos)) (eolB (G.T.drop L.pos)) ∧ L'.nb = false)
theorem eol_fin {G : Cfg} {L L' : Lay} {w w' : World} {r : Bool} {n b : Nat} (h1 : dm.eol (G.T.drop L.pos) = if r = true then some n else none) (h0 : r = false → n = 0) (hb : dm.breaks ((G.T.drop L.pos).take n) = b) (d : DL G L' w') (g : Go G L w L' w') (l : Ln L L' n b) (hn : L'.nb = false) : EolOut G L w (.returned (.bool r)) w' := by
  have e1 : (dm.eol (G.T.drop L.pos)).isSome = r := by rw [h1]; cases r <;> rfl
  have e2 : eolN (G.T.drop L.pos) = n := by
    unfold eolN
    rw [h1]
    cases r with
    | true => rfl
    | false => exact (h0 rfl).symm
  refine ⟨by rw [e1], Lib.hid ⟨L', d, g, ?_, hn⟩⟩
  unfold eolB
  rw [e2, hb]
  exact l
set_option maxRecDepth 100000 in
set_option maxHeartbeats 1000000 in
theorem eol58 (G : Cfg) (hG : Base G) (L : Lay) (w : World) (h : DL G L w) (hln : L.line < 1000000) :
    Calls Tryd.prog 58 #[.pointer (some ⟨G.D, 0, none⟩)] w (EolOut G L w) := by
  have HL := Lib.hid h
  have HG := Lib.hid hG
  have HE := Lib.hid (ens1 G hG L w h)
  clear h hG
  go_enter Tryd.func58, Tryd.ntmps58
  go_wp2_with fail
  refine HE.out.mono ?_
  rintro e w1 ⟨he, hE⟩
  obtain ⟨L1, d1, d2, d3, d4, d5, d6⟩ := hE.out
  have hs1 := d3.sm
  have hp1 := hs1.pos
  by_cases hlt : L.pos + 1 ≤ G.T.length
  · rw [show decide (L.pos + 1 ≤ G.T.length) = true by simpa using hlt] at he
    subst he
    have hd := drop_at (T := G.T) (p := L.pos) (by omega)
    have HA := Lib.hid (at0 G HG.out L1 w1 d1 d4)
    rw [hp1, Nat.add_zero] at HA
    obtain ⟨c, hc⟩ : ∃ c, G.T.getD L.pos 0 = c := ⟨_, rfl⟩
    rw [hc] at hd HA
    have hcb := c.toNat_lt
    have HD := Lib.hid hd
    have H1 := Lib.hid (And.intro d1 (And.intro d2 (And.intro hs1 (And.intro d4 hlt))))
    clear d1 d2 d3 d4 d5 d6 hE hs1 hp1 hc hd hlt HE
    go_wp2_with fail
    refine HA.out.mono ?_
    rintro e w2 ⟨rfl, nd, rfl⟩
    clear HA
    obtain ⟨d1, d2, hs1, d4, hlt⟩ := H1.out
    have D2 := Lib.hid (And.intro (d1.drewN nd) (d2.trans HL.out (Go.drewN G L1 w1 nd)))
    have hp1 := hs1.pos
    by_cases h10 : c = 10
    · have h10z : (c.toNat : Int) = 10 := by rw [h10]; rfl
      have H10 := Lib.hid h10
      have HV := Lib.hid (adv1 G HG.out L1 (w1.drewN nd) D2.out.1 d4 (by omega))
      clear d1 d2 h10
      go_wp2_with fail
      refine HV.out.mono ?_
      rintro e w3 ⟨rfl, h3⟩
      have hn : (L1.fwd 1).nb = false := d4.1
      have hl3 : (L1.fwd 1).line = L.line := hs1.line
      have hdn := h3.out.1.down HG.out hn (by rw [hl3]; exact hln)
      rw [hl3] at hdn
      have c8 := h3.out.1.cells.2.2.2.2.2.2.2.2.1
      rw [hl3] at c8
      have z8 := Rw.fz h3.out.1.row 8
      have hw : IntKind.i64.wrap ((L.line : Int) + 1) = (L.line : Int) + 1 := by rw [IntKind.wrap_i64]; omega
      have HF := Lib.hid (eol_fin (L := L) (r := true) (n := 1) (b := 1) (by rw [HD.out, H10.out]; rfl) (by simp) (by rw [HD.out, H10.out]; rfl) hdn.1 (((D2.out.2).trans HL.out h3.out.2).trans HL.out hdn.2) (by simpa using (hs1.ln.trans (Sm.fwd L1 1).ln).trans (Ln.down _)) hn)
      clear hs1 d4 hlt hp1 hdn hl3 hn
      go_wp2_with fail
      go_ret
      exact HF.out
    · have h10z : ¬ (c.toNat : Int) = 10 := fun e => h10 (UInt8.toNat_inj.1 (by show c.toNat = 10; omega))
      by_cases h13 : c = 13
      · have h13z : (c.toNat : Int) = 13 := by rw [h13]; rfl
        have H13 := Lib.hid h13
        have HV := Lib.hid (ens2 G HG.out L1 (w1.drewN nd) D2.out.1)
        clear d1 d2 h10 h13
        go_wp2_with fail
        refine HV.out.mono ?_
        rintro e w3 ⟨he3, hE3⟩
        obtain ⟨L3, f1, f2, f3, f4, f5, f6⟩ := hE3.out
        have hs3 := f3.sm
        have hp3 := hs3.pos
        have G3 := Lib.hid (D2.out.2.trans HL.out f2)
        by_cases hlt2 : L1.pos + 2 ≤ G.T.length
        · rw [show decide (L1.pos + 2 ≤ G.T.length) = true by simpa using hlt2] at he3
          subst he3
          have hd2 := drop_at (T := G.T) (p := L.pos + 1) (by omega)
          have HA := Lib.hid (at1 G HG.out L3 w3 f1 f4)
          rw [show L3.pos + 1 = L.pos + 1 by omega] at HA
          obtain ⟨d, hdd⟩ : ∃ d, G.T.getD (L.pos + 1) 0 = d := ⟨_, rfl⟩
          rw [hdd] at hd2 HA
          have hdb := d.toNat_lt
          have HD2 := Lib.hid hd2
          have F3 := Lib.hid (And.intro f1 (And.intro f4 (And.intro hs3 (And.intro hs1 (And.intro hp3 (And.intro hp1 hlt2))))))
          clear f1 f2 f3 f4 f5 f6 hE3 hs3 hs1 hp3 hp1 hlt2 hdd hd2 d4 hlt HV
          go_wp2_with fail
          refine HA.out.mono ?_
          rintro e w4 ⟨rfl, nd4, rfl⟩
          clear HA
          obtain ⟨f1, f4, hs3, hs1, hp3, hp1, hlt2⟩ := F3.out
          have D4 := Lib.hid (And.intro (f1.drewN nd4) (G3.out.trans HL.out (Go.drewN G L3 w3 nd4)))
          by_cases hd10 : d = 10
          · have hd10z : (d.toNat : Int) = 10 := by rw [hd10]; rfl
            have HD10 := Lib.hid hd10
            have HV := Lib.hid (adv2 G HG.out L3 (w3.drewN nd4) D4.out.1 f4 (by omega))
            have F4 := Lib.hid f4
            clear f1 f4 hd10
            go_wp2_with fail
            refine HV.out.mono ?_
            rintro e w5 ⟨rfl, h5⟩
            have hn : (L3.fwd 2).nb = false := F4.out.1
            have hl3 : (L3.fwd 2).line = L.line := hs3.line.trans hs1.line
            have hdn := h5.out.1.down HG.out hn (by rw [hl3]; exact hln)
            rw [hl3] at hdn
            have c8 := h5.out.1.cells.2.2.2.2.2.2.2.2.1
            rw [hl3] at c8
            have z8 := Rw.fz h5.out.1.row 8
            have hw : IntKind.i64.wrap ((L.line : Int) + 1) = (L.line : Int) + 1 := by rw [IntKind.wrap_i64]; omega
            have HF := Lib.hid (eol_fin (L := L) (r := true) (n := 2) (b := 1) (by rw [HD.out, H13.out, HD2.out, HD10.out]; rfl) (by simp) (by rw [HD.out, H13.out, HD2.out, HD10.out]; rfl) hdn.1 (((D4.out.2).trans HL.out h5.out.2).trans HL.out hdn.2) (by simpa using ((hs1.ln.trans hs3.ln).trans (Sm.fwd L3 2).ln).trans (Ln.down _)) hn)
            clear hs1 hs3 hp1 hp3 hlt2 hdn hl3 hn
            go_wp2_with fail
            go_ret
            exact HF.out
          · have hd10z : ¬ (d.toNat : Int) = 10 := fun e => hd10 (UInt8.toNat_inj.1 (by show d.toNat = 10; omega))
            have HF := Lib.hid (eol_fin (L := L) (r := false) (n := 0) (b := 0) (by rw [HD.out, H13.out, HD2.out]; simp [dm.eol, hd10]) (by simp) rfl D4.out.1 D4.out.2 (by simpa using hs1.ln.trans hs3.ln) f4.1)
            clear f1 f4 hd10 hs1 hs3 hp1 hp3 hlt2
            go_wp2_with fail
            go_ret
            exact HF.out
        · rw [show decide (L1.pos + 2 ≤ G.T.length) = false by simpa using hlt2] at he3
          subst he3
          have hnil : G.T.drop (L.pos + 1) = [] := List.drop_eq_nil_of_le (by omega)
          have HV := Lib.hid (adv1 G HG.out L3 w3 f1 (f4.mono (by omega)) (by omega))
          have F3 := Lib.hid (And.intro f4 (And.intro hs3 (And.intro hs1 hnil)))
          clear f1 f2 f3 f4 f5 f6 hE3 hs3 hs1 hp3 hp1 hlt2 d4 hlt hnil
          go_wp2_with fail
          refine HV.out.mono ?_
          rintro e w5 ⟨rfl, h5⟩
          obtain ⟨f4, hs3, hs1, hnil⟩ := F3.out
          have HF := Lib.hid (eol_fin (L := L) (r := true) (n := 1) (b := 0) (by rw [HD.out, H13.out, hnil]; rfl) (by simp) (by rw [HD.out, H13.out]; rfl) h5.out.1 (G3.out.trans HL.out h5.out.2) (by simpa using (hs1.ln.trans hs3.ln).trans (Sm.fwd L3 1).ln) f4.1)
          clear f4 hs3 hs1 hnil
          go_wp2_with fail
          go_ret
          exact HF.out
      · have h13z : ¬ (c.toNat : Int) = 13 := fun e => h13 (UInt8.toNat_inj.1 (by show c.toNat = 13; omega))
        have HF := Lib.hid (eol_fin (L := L) (r := false) (n := 0) (b := 0) (by rw [HD.out]; simp [dm.eol, h10, h13]) (by simp) rfl D2.out.1 D2.out.2 (by simpa using hs1.ln) d4.1)
        clear d1 d2 d4 hs1 h10 h13 hlt hp1
        go_wp2_with fail
        go_ret
        exact HF.out
  · rw [show decide (L.pos + 1 ≤ G.T.length) = false by simpa using hlt] at he
    subst he
    have hnil : G.T.drop L.pos = [] := List.drop_eq_nil_of_le (by omega)
    have HF := Lib.hid (eol_fin (L := L) (r := true) (n := 0) (b := 0) (by rw [hnil]; rfl) (by simp) rfl d1 d2 hs1.ln d4.1)
    clear d1 d2 d3 d4 d5 d6 hE hs1 hp1 hlt hnil HE
    go_wp2_with fail
    go_ret
    exact HF.out
end Go.Proofs.YtlcbcgillekphaaDoor.dec
