/-
  Proved: the contract of the decoder's takeEOL · the contract of the decoder's skipEmptyLines.
  Conditions: each law's own; a text of at most 4000 bytes where one is read.
-/
import Derived.Test.YtlcbcgillekphaaGreatDoorDfa
import Derived.Test.YtlcbcgillekphaaGreatDoorGb
namespace Go.Proofs.YtlcbcgillekphaaGreatDoor.dec
open Go.RowKit Mem rw
set_option linter.unusedVariables false

/-- What a step on whole lines leaves of a decoder's lay. -/
structure Ln (L L' : Lay) (n b : Nat) : Prop where
  base : L'.base = L.base
  r0 : L'.r0 = L.r0
  r1 : L'.r1 = L.r1 + n
  sec : L'.sec = L.sec
  sk : L'.sk = L.sk
  line : L'.line = L.line + b
  esc : L'.esc = L.esc
theorem Ln.refl (L : Lay) : Ln L L 0 0 := ⟨rfl, rfl, rfl, rfl, rfl, rfl, rfl⟩
theorem Ln.trans {L L1 L2 : Lay} {n m b c : Nat} (a : Ln L L1 n b) (k : Ln L1 L2 m c) : Ln L L2 (n + m) (b + c) :=
  ⟨k.base.trans a.base, k.r0.trans a.r0, by rw [k.r1, a.r1]; omega, k.sec.trans a.sec, k.sk.trans a.sk, by rw [k.line, a.line]; omega, k.esc.trans a.esc⟩
theorem Sm.ln {L L' : Lay} {n : Nat} (h : Sm L L' n) : Ln L L' n 0 := ⟨h.base, h.r0, h.r1, h.sec, h.sk, h.line, h.esc⟩
theorem Ln.pos {L L' : Lay} {n b : Nat} (h : Ln L L' n b) : L'.pos = L.pos + n := by unfold Lay.pos; rw [h.base, h.r1]; omega
theorem Ln.frm {L L' : Lay} {n b : Nat} (h : Ln L L' n b) : L'.frm = L.frm := by unfold Lay.frm; rw [h.base, h.r0]
/-- The cell of the line. -/
def Lay.down (L : Lay) : Lay := { L with line := L.line + 1 }
theorem DL.down {G : Cfg} (hG : Base G) {L : Lay} {w : World} (h : DL G L w) (hn : L.nb = false) (hl : L.line < 1000000) : DL G L.down (w.setCell ⟨G.D, 8, none⟩ (.int .i64 ((L.line : Int) + 1))) ∧ Go G L w L.down (w.setCell ⟨G.D, 8, none⟩ (.int .i64 ((L.line : Int) + 1))) :=
  h.put (L' := L.down) 8 (.int .i64 ((L.line : Int) + 1)) (by
    have e : ((L.line + 1 : Nat) : Int) = (L.line : Int) + 1 := by omega
    unfold Lay.cells
    simp only [Lay.down, e]
    rfl) ⟨rfl, rfl, rfl, rfl, rfl, rfl, rfl, rfl, rfl, rfl⟩ (fun e => (by rw [show L.down.nb = L.nb from rfl, hn] at e; cases e)) h.r01 h.r1l (by show L.line + 1 ≤ 1000000; omega) hG
theorem Ln.down (L : Lay) : Ln L L.down 0 1 := ⟨rfl, rfl, rfl, rfl, rfl, rfl, rfl⟩
/-- How many bytes an end of a line has. -/
def eolN (l : List UInt8) : Nat := (dm.eol l).getD 0
def eolB (l : List UInt8) : Nat := dm.breaks (l.take (eolN l))
theorem drop_at {T : List UInt8} {p : Nat} (h : p < T.length) : T.drop p = T.getD p 0 :: T.drop (p + 1) := by
  rw [List.drop_eq_getElem_cons h, T_get h]
def EolOut (G : Cfg) (L : Lay) (w : World) (e : Ending) (w' : World) : Prop :=
  e = .returned (.bool (dm.eol (G.T.drop L.pos)).isSome) ∧ Hid (∃ L', DL G L' w' ∧ Go G L w L' w' ∧ Ln L L' (eolN (G.T.drop L.pos)) (eolB (G.T.drop L.pos)) ∧ L'.nb = false)
theorem eol_fin {G : Cfg} {L L' : Lay} {w w' : World} {r : Bool} {n b : Nat} (h1 : dm.eol (G.T.drop L.pos) = if r = true then some n else none) (h0 : r = false → n = 0) (hb : dm.breaks ((G.T.drop L.pos).take n) = b) (d : DL G L' w') (g : Go G L w L' w') (l : Ln L L' n b) (hn : L'.nb = false) : EolOut G L w (.returned (.bool r)) w' := by
  have e1 : (dm.eol (G.T.drop L.pos)).isSome = r := by rw [h1]; cases r <;> rfl
  have e2 : eolN (G.T.drop L.pos) = n := by
    unfold eolN
    rw [h1]
    cases r with
    | true => rfl
    | false => exact (h0 rfl).symm
  refine ⟨by rw [e1], Lib.hid ⟨L', d, g, ?_, hn⟩⟩
  unfold eolB
  rw [e2, hb]
  exact l
set_option maxRecDepth 100000 in
set_option maxHeartbeats 1000000 in
theorem eol58 (G : Cfg) (hG : Base G) (L : Lay) (w : World) (h : DL G L w) (hln : L.line < 1000000) :
    Calls Tryz.prog 47 #[.pointer (some ⟨G.D, 0, none⟩)] w (EolOut G L w) := by
  have HL := Lib.hid h
  have HG := Lib.hid hG
  have HE := Lib.hid (ens1 G hG L w h)
  clear h hG
  go_enter Tryz.func47, Tryz.ntmps47
  go_wp2_with fail
  refine HE.out.mono ?_
  rintro e w1 ⟨he, hE⟩
  obtain ⟨L1, d1, d2, d3, d4, d5, d6⟩ := hE.out
  have hs1 := d3.sm
  have hp1 := hs1.pos
  by_cases hlt : L.pos + 1 ≤ G.T.length
  · rw [show decide (L.pos + 1 ≤ G.T.length) = true by simpa using hlt] at he
    subst he
    have hd := drop_at (T := G.T) (p := L.pos) (by omega)
    have HA := Lib.hid (at0 G HG.out L1 w1 d1 d4)
    rw [hp1, Nat.add_zero] at HA
    obtain ⟨c, hc⟩ : ∃ c, G.T.getD L.pos 0 = c := ⟨_, rfl⟩
    rw [hc] at hd HA
    have hcb := c.toNat_lt
    have HD := Lib.hid hd
    have H1 := Lib.hid (And.intro d1 (And.intro d2 (And.intro hs1 (And.intro d4 hlt))))
    clear d1 d2 d3 d4 d5 d6 hE hs1 hp1 hc hd hlt HE
    go_wp2_with fail
    refine HA.out.mono ?_
    rintro e w2 ⟨rfl, nd, rfl⟩
    clear HA
    obtain ⟨d1, d2, hs1, d4, hlt⟩ := H1.out
    have D2 := Lib.hid (And.intro (d1.drewN nd) (d2.trans HL.out (Go.drewN G L1 w1 nd)))
    have hp1 := hs1.pos
    by_cases h10 : c = 10
    · have h10z : (c.toNat : Int) = 10 := by rw [h10]; rfl
      have H10 := Lib.hid h10
      have HV := Lib.hid (adv1 G HG.out L1 (w1.drewN nd) D2.out.1 d4 (by omega))
      clear d1 d2 h10
      go_wp2_with fail
      refine HV.out.mono ?_
      rintro e w3 ⟨rfl, h3⟩
      have hn : (L1.fwd 1).nb = false := d4.1
      have hl3 : (L1.fwd 1).line = L.line := hs1.line
      have hdn := h3.out.1.down HG.out hn (by rw [hl3]; exact hln)
      rw [hl3] at hdn
      have c8 := h3.out.1.cells.2.2.2.2.2.2.2.2.1
      rw [hl3] at c8
      have z8 := Rw.fz h3.out.1.row 8
      have hw : IntKind.i64.wrap ((L.line : Int) + 1) = (L.line : Int) + 1 := by rw [IntKind.wrap_i64]; omega
      have HF := Lib.hid (eol_fin (L := L) (r := true) (n := 1) (b := 1) (by rw [HD.out, H10.out]; rfl) (by simp) (by rw [HD.out, H10.out]; rfl) hdn.1 (((D2.out.2).trans HL.out h3.out.2).trans HL.out hdn.2) (by simpa using (hs1.ln.trans (Sm.fwd L1 1).ln).trans (Ln.down _)) hn)
      clear hs1 d4 hlt hp1 hdn hl3 hn
      go_wp2_with fail
      go_ret
      exact HF.out
    · have h10z : ¬ (c.toNat : Int) = 10 := fun e => h10 (UInt8.toNat_inj.1 (by show c.toNat = 10; omega))
      by_cases h13 : c = 13
      · have h13z : (c.toNat : Int) = 13 := by rw [h13]; rfl
        have H13 := Lib.hid h13
        have HV := Lib.hid (ens2 G HG.out L1 (w1.drewN nd) D2.out.1)
        clear d1 d2 h10 h13
        go_wp2_with fail
        refine HV.out.mono ?_
        rintro e w3 ⟨he3, hE3⟩
        obtain ⟨L3, f1, f2, f3, f4, f5, f6⟩ := hE3.out
        have hs3 := f3.sm
        have hp3 := hs3.pos
        have G3 := Lib.hid (D2.out.2.trans HL.out f2)
        by_cases hlt2 : L1.pos + 2 ≤ G.T.length
        · rw [show decide (L1.pos + 2 ≤ G.T.length) = true by simpa using hlt2] at he3
          subst he3
          have hd2 := drop_at (T := G.T) (p := L.pos + 1) (by omega)
          have HA := Lib.hid (at1 G HG.out L3 w3 f1 f4)
          rw [show L3.pos + 1 = L.pos + 1 by omega] at HA
          obtain ⟨d, hdd⟩ : ∃ d, G.T.getD (L.pos + 1) 0 = d := ⟨_, rfl⟩
          rw [hdd] at hd2 HA
          have hdb := d.toNat_lt
          have HD2 := Lib.hid hd2
          have F3 := Lib.hid (And.intro f1 (And.intro f4 (And.intro hs3 (And.intro hs1 (And.intro hp3 (And.intro hp1 hlt2))))))
          clear f1 f2 f3 f4 f5 f6 hE3 hs3 hs1 hp3 hp1 hlt2 hdd hd2 d4 hlt HV
          go_wp2_with fail
          refine HA.out.mono ?_
          rintro e w4 ⟨rfl, nd4, rfl⟩
          clear HA
          obtain ⟨f1, f4, hs3, hs1, hp3, hp1, hlt2⟩ := F3.out
          have D4 := Lib.hid (And.intro (f1.drewN nd4) (G3.out.trans HL.out (Go.drewN G L3 w3 nd4)))
          by_cases hd10 : d = 10
          · have hd10z : (d.toNat : Int) = 10 := by rw [hd10]; rfl
            have HD10 := Lib.hid hd10
            have HV := Lib.hid (adv2 G HG.out L3 (w3.drewN nd4) D4.out.1 f4 (by omega))
            have F4 := Lib.hid f4
            clear f1 f4 hd10
            go_wp2_with fail
            refine HV.out.mono ?_
            rintro e w5 ⟨rfl, h5⟩
            have hn : (L3.fwd 2).nb = false := F4.out.1
            have hl3 : (L3.fwd 2).line = L.line := hs3.line.trans hs1.line
            have hdn := h5.out.1.down HG.out hn (by rw [hl3]; exact hln)
            rw [hl3] at hdn
            have c8 := h5.out.1.cells.2.2.2.2.2.2.2.2.1
            rw [hl3] at c8
            have z8 := Rw.fz h5.out.1.row 8
            have hw : IntKind.i64.wrap ((L.line : Int) + 1) = (L.line : Int) + 1 := by rw [IntKind.wrap_i64]; omega
            have HF := Lib.hid (eol_fin (L := L) (r := true) (n := 2) (b := 1) (by rw [HD.out, H13.out, HD2.out, HD10.out]; rfl) (by simp) (by rw [HD.out, H13.out, HD2.out, HD10.out]; rfl) hdn.1 (((D4.out.2).trans HL.out h5.out.2).trans HL.out hdn.2) (by simpa using ((hs1.ln.trans hs3.ln).trans (Sm.fwd L3 2).ln).trans (Ln.down _)) hn)
            clear hs1 hs3 hp1 hp3 hlt2 hdn hl3 hn
            go_wp2_with fail
            go_ret
            exact HF.out
          · have hd10z : ¬ (d.toNat : Int) = 10 := fun e => hd10 (UInt8.toNat_inj.1 (by show d.toNat = 10; omega))
            have HF := Lib.hid (eol_fin (L := L) (r := false) (n := 0) (b := 0) (by rw [HD.out, H13.out, HD2.out]; simp [dm.eol, hd10]) (by simp) rfl D4.out.1 D4.out.2 (by simpa using hs1.ln.trans hs3.ln) f4.1)
            clear f1 f4 hd10 hs1 hs3 hp1 hp3 hlt2
            go_wp2_with fail
            go_ret
            exact HF.out
        · rw [show decide (L1.pos + 2 ≤ G.T.length) = false by simpa using hlt2] at he3
          subst he3
          have hnil : G.T.drop (L.pos + 1) = [] := List.drop_eq_nil_of_le (by omega)
          have HV := Lib.hid (adv1 G HG.out L3 w3 f1 (f4.mono (by omega)) (by omega))
          have F3 := Lib.hid (And.intro f4 (And.intro hs3 (And.intro hs1 hnil)))
          clear f1 f2 f3 f4 f5 f6 hE3 hs3 hs1 hp3 hp1 hlt2 d4 hlt hnil
          go_wp2_with fail
          refine HV.out.mono ?_
          rintro e w5 ⟨rfl, h5⟩
          obtain ⟨f4, hs3, hs1, hnil⟩ := F3.out
          have HF := Lib.hid (eol_fin (L := L) (r := true) (n := 1) (b := 0) (by rw [HD.out, H13.out, hnil]; rfl) (by simp) (by rw [HD.out, H13.out]; rfl) h5.out.1 (G3.out.trans HL.out h5.out.2) (by simpa using (hs1.ln.trans hs3.ln).trans (Sm.fwd L3 1).ln) f4.1)
          clear f4 hs3 hs1 hnil
          go_wp2_with fail
          go_ret
          exact HF.out
      · have h13z : ¬ (c.toNat : Int) = 13 := fun e => h13 (UInt8.toNat_inj.1 (by show c.toNat = 13; omega))
        have HF := Lib.hid (eol_fin (L := L) (r := false) (n := 0) (b := 0) (by rw [HD.out]; simp [dm.eol, h10, h13]) (by simp) rfl D2.out.1 D2.out.2 (by simpa using hs1.ln) d4.1)
        clear d1 d2 d4 hs1 h10 h13 hlt hp1
        go_wp2_with fail
        go_ret
        exact HF.out
  · rw [show decide (L.pos + 1 ≤ G.T.length) = false by simpa using hlt] at he
    subst he
    have hnil : G.T.drop L.pos = [] := List.drop_eq_nil_of_le (by omega)
    have HF := Lib.hid (eol_fin (L := L) (r := true) (n := 0) (b := 0) (by rw [hnil]; rfl) (by simp) rfl d1 d2 hs1.ln d4.1)
    clear d1 d2 d3 d4 d5 d6 hE hs1 hp1 hlt hnil HE
    go_wp2_with fail
    go_ret
    exact HF.out
end Go.Proofs.YtlcbcgillekphaaGreatDoor.dec
namespace Go.Proofs.YtlcbcgillekphaaGreatDoor.dec
open Go.RowKit Mem rw
set_option linter.unusedVariables false

theorem run_brk (P : UInt8 → Bool) (hP : P 10 = false) (l : List UInt8) : dm.breaks (l.take (dm.runN P l)) = 0 := by
  unfold dm.runN dm.breaks
  induction l with
  | nil => rfl
  | cons c t ih =>
    by_cases hc : P c = true
    · have hcn : c ≠ 10 := by rintro rfl; rw [hP] at hc; cases hc
      rw [List.takeWhile_cons_of_pos hc]
      simp only [List.length_cons, List.take_succ_cons, List.countP_cons, ih]
      simp [hcn]
    · rw [List.takeWhile_cons_of_neg hc]
      rfl
theorem brk_add (l : List UInt8) (n m : Nat) : dm.breaks (l.take (n + m)) = dm.breaks (l.take n) + dm.breaks ((l.drop n).take m) := by
  rw [List.take_add, dm.breaks_app]
theorem eolN_le (l : List UInt8) : eolN l ≤ l.length := by
  unfold eolN
  match l with
  | [] => simp [dm.eol]
  | [c] =>
    simp only [dm.eol]
    repeat' split
    all_goals simp
  | c :: d :: t =>
    simp only [dm.eol]
    repeat' split
    all_goals simp
theorem not_mine {G : Cfg} {L : Lay} {w : World} {X : Nat} (h : DL G L w) (hX : w.heap.size ≤ X) : X ∉ own G L := fun hx => by
  rw [mem_own] at hx
  have h1 := Rw.lt h.row
  have h2 := h.esc.lt
  have h3 := h.rlt
  rcases hx with e | e | e | ⟨hn, e⟩
  · omega
  · omega
  · omega
  · have := (h.buf hn).1.lt; omega
theorem eol_pos {l : List UInt8} {e : Nat} (h : dm.eol l = some e) (hl : l ≠ []) : 1 ≤ e := by
  match l with
  | [] => exact absurd rfl hl
  | [c] =>
    simp only [dm.eol] at h
    split at h
    · simp at h; omega
    · split at h
      · simp at h; omega
      · cases h
  | c :: d :: t =>
    simp only [dm.eol] at h
    split at h
    · simp at h; omega
    · split at h
      · split at h
        · simp at h; omega
        · cases h
      · cases h
theorem getD_lt {T : List UInt8} {p : Nat} {c : UInt8} (h : T.getD p 0 = c) (hc : c ≠ 0) : p < T.length := by
  rcases Nat.lt_or_ge p T.length with h1 | h1
  · exact h1
  · rw [List.getD_eq_getElem?_getD, List.getElem?_eq_none h1] at h
    exact absurd h.symm hc
/-- Where skipEmptyLines stands. -/
structure SkI (G : Cfg) (L : Lay) (w : World) (L1 : Lay) (w1 : World) (m : Nat) : Prop where
  dl : DL G L1 w1
  go : Go G L w L1 w1
  ln : Ln L L1 m (dm.breaks ((G.T.drop L.pos).take m))
  le : L.pos + m ≤ G.T.length
  ps : ∃ f, G.T.length - (L.pos + m) ≤ f ∧ dm.passed (G.T.length + 1) (G.T.drop L.pos) = m + dm.passed (f + 1) (G.T.drop (L.pos + m))
def SkOut (G : Cfg) (L : Lay) (w : World) (e : Ending) (w' : World) : Prop :=
  e = .returned (.tuple #[]) ∧ Hid (∃ L' n, n = dm.passed (G.T.length + 1) (G.T.drop L.pos) ∧ L.pos + n ≤ G.T.length ∧ DL G L' w' ∧ Go G L w L' w' ∧ Ln L L' n (dm.breaks ((G.T.drop L.pos).take n)) ∧ L'.nb = false)
theorem SkI.more {G : Cfg} {L L1 L2 : Lay} {w w1 w2 : World} {m n b : Nat} (h0 : DL G L w) (h : SkI G L w L1 w1 m) (d : DL G L2 w2) (g : Go G L1 w1 L2 w2) (l : Ln L1 L2 n b) (hb : dm.breaks ((G.T.drop (L.pos + m)).take n) = b) (hn : 1 ≤ n) (hle : L.pos + m + n ≤ G.T.length)
    (hp : ∀ f, dm.passed (f + 1) (G.T.drop (L.pos + m)) = n + dm.passed f (G.T.drop (L.pos + m + n))) : SkI G L w L2 w2 (m + n) := by
  obtain ⟨f, h1, h2⟩ := h.ps
  refine ⟨d, h.go.trans h0 g, ?_, by omega, ?_⟩
  · have := h.ln.trans l
    rw [brk_add, List.drop_drop, hb]
    exact this
  · obtain ⟨f2, rfl⟩ : ∃ f2, f = f2 + 1 := ⟨f - 1, by omega⟩
    refine ⟨f2, by omega, ?_⟩
    rw [h2, hp, Nat.add_assoc, Nat.add_assoc]
theorem SkI.fin {G : Cfg} {L L1 L2 : Lay} {w w1 w2 : World} {m n : Nat} (h0 : DL G L w) (h : SkI G L w L1 w1 m) (d : DL G L2 w2) (g : Go G L1 w1 L2 w2) (l : Ln L1 L2 n 0) (hb : dm.breaks ((G.T.drop (L.pos + m)).take n) = 0) (hle : L.pos + m + n ≤ G.T.length)
    (hp : ∀ f, dm.passed (f + 1) (G.T.drop (L.pos + m)) = n) (hnb : L2.nb = false) : SkOut G L w (.returned (.tuple #[])) w2 := by
  obtain ⟨f, h1, h2⟩ := h.ps
  refine ⟨rfl, Lib.hid ⟨L2, m + n, ?_, by omega, d, h.go.trans h0 g, ?_, hnb⟩⟩
  · rw [h2, hp]
  · have := h.ln.trans l
    rw [brk_add, List.drop_drop, hb]
    exact this
set_option maxRecDepth 100000 in
set_option maxHeartbeats 2000000 in
theorem skip31 (G : Cfg) (hG : Base G) (L : Lay) (w : World) (h : DL G L w) (hln : L.line ≤ 500000) :
    Calls Tryz.prog 26 #[.pointer (some ⟨G.D, 0, none⟩)] w (SkOut G L w) := by
  have hle0 : L.pos ≤ G.T.length := by have := h.blen; have := h.r1l; unfold Lay.pos; omega
  have HL := Lib.hid h
  have HG := Lib.hid hG
  have HS0 : Hid (SkI G L w L w 0) := Lib.hid ⟨h, Go.refl G L w, by rw [List.take_zero]; exact Ln.refl L, by simpa using hle0, ⟨G.T.length, by omega, by simp⟩⟩
  clear h hG hle0
  go_enter Tryz.func26, Tryz.ntmps26
  go_wp2_with fail
  go_loopg [2] (G.T.length - L.pos) (fun g s2 wr => ∃ (L1 : Lay) (m : Nat), g = G.T.length - L.pos - m ∧ Hid (SkI G L w L1 wr m))
  case atStart => exact ⟨L, 0, by omega, HS0⟩
  case round =>
    obtain ⟨L1, m, hg, hI⟩ := hrel
    have HI := Lib.hid hI.out
    clear hI HS0
    obtain ⟨c0, c1, c2, c3, c4, c5, c6, c7, c8, c9⟩ := HI.out.dl.cells
    have hl1 := HI.out.dl.lenle HG.out
    have h11 := HI.out.dl.r1l
    have h01 := HI.out.dl.r01
    obtain ⟨st, hst⟩ : ∃ st, L1.r1 - L1.r0 = st := ⟨_, rfl⟩
    have hw : IntKind.i64.wrap ((L1.r1 : Int) - (L1.r0 : Int)) = (st : Int) := by rw [IntKind.wrap_i64]; omega
    have HST := Lib.hid (show L1.r0 + st = L1.r1 by omega)
    have hlI := HI.out.le
    have hlin : L1.line ≤ 510000 := by
      have h1 := HI.out.ln.line
      have h2 := dm.breaks_le ((G.T.drop L.pos).take m)
      rw [List.length_take, List.length_drop] at h2
      have h3 := HG.out.tlen
      omega
    clear hst
    go_wp2_with fail
    go_quiet (fail)
    go_wp2_with fail
    refine (set.mk_fieldSeparatorSpace _).mono ?_
    rintro e w2 ⟨R, rfl, hR⟩
    have hq := (HI.out.dl.drewN nq).quiet (But.ofBelow (S := []) hR.2.2)
    have HT := Lib.hid (take30 G HG.out L1 w2 hq.1 R _ (dm.inS 0) (fun c => set.inN_byte 0 c) hR.2.1 (not_mine (HI.out.dl.drewN nq) hR.1))
    have HQ := Lib.hid ((Go.drewN G L1 wr nq).trans HI.out.dl hq.2)
    clear hq hR c0 c1 c2 c3 c4 c5 c6 c7 c8 c9
    go_wp2_with fail
    refine HT.out.mono ?_
    rintro e w3 ⟨a3, n3, k3, rfl, h3⟩
    obtain ⟨e3, L3, t1, t2, t3, t4, t5⟩ := h3.out
    have hp1 : L1.pos = L.pos + m := HI.out.ln.pos
    have hp3 : L3.pos = L.pos + m + n3 := by rw [t3.pos, hp1]
    rw [hp1] at e3
    have HA := Lib.hid (at0 G HG.out L3 w3 t1 t4)
    rw [hp3] at HA
    have H3 := Lib.hid (And.intro t1 (And.intro ((HQ.out).trans HI.out.dl t2) (And.intro t3 (And.intro t4 (And.intro e3 hp3)))))
    have hrl := dm.runN_le (dm.inS 0) (G.T.drop (L.pos + m))
    rw [List.length_drop, ← e3] at hrl
    have hle3 : L.pos + m + n3 ≤ G.T.length := by omega
    have HB3 := Lib.hid (run_brk (dm.inS 0) (by decide) (G.T.drop (L.pos + m)))
    rw [← e3] at HB3
    obtain ⟨c, hc⟩ : ∃ c, G.T.getD (L.pos + m + n3) 0 = c := ⟨_, rfl⟩
    rw [hc] at HA
    have HC := Lib.hid hc
    have hcb := c.toNat_lt
    clear t1 t2 t3 t4 t5 h3 e3 hp3 hrl hc HT HQ hp1
    go_wp2_with fail
    refine HA.out.mono ?_
    rintro e w4 ⟨rfl, nd, rfl⟩
    clear HA
    obtain ⟨t1, t2, t3, t4, e3, hp3⟩ := H3.out
    have D4 := Lib.hid (And.intro (t1.drewN nd) (t2.trans HI.out.dl (Go.drewN G L3 w3 nd)))
    clear t1 t2
    by_cases h35 : c = 35
    · have h35z : (c.toNat : Int) = 35 := by rw [h35]; rfl
      have hend := getD_lt HC.out (by rw [h35]; decide)
      have hdrop := drop_at hend
      rw [HC.out, h35] at hdrop
      have HD := Lib.hid hdrop
      have HLN : L3.line = L1.line := t3.line
      have H35 := Lib.hid (And.intro t3 (And.intro t4 (And.intro e3 (And.intro hp3 (And.intro hend HLN)))))
      clear h35 hdrop t3 t4 e3 hp3 hend HLN HC
      go_wp2_with fail
      refine (set.mk_commentChars _).mono ?_
      rintro e w5 ⟨R5, rfl, hR⟩
      have hq := D4.out.1.quiet (But.ofBelow (S := []) hR.2.2)
      have HT := Lib.hid (take30 G HG.out L3 w5 hq.1 R5 _ (dm.inS 11) (fun c => set.inN_byte 11 c) hR.2.1 (not_mine D4.out.1 hR.1))
      have HQ := Lib.hid (D4.out.2.trans HI.out.dl hq.2)
      clear hq hR
      go_wp2_with fail
      refine HT.out.mono ?_
      rintro e w6 ⟨a6, q, k6, rfl, h6⟩
      obtain ⟨e6, L6, u1, u2, u3, u4, u5⟩ := h6.out
      obtain ⟨t3, t4, e3, hp3, hend, HLN⟩ := H35.out
      rw [hp3] at e6
      have hp6 : L6.pos = L.pos + m + n3 + q := by rw [u3.pos, hp3]
      have hrl := dm.runN_le (dm.inS 11) (G.T.drop (L.pos + m + n3))
      rw [List.length_drop, ← e6] at hrl
      have hq1 : 1 ≤ q := by
        rw [e6, HD.out]
        unfold dm.runN
        rw [List.takeWhile_cons_of_pos (by decide)]
        simp
      have HB6 := Lib.hid (run_brk (dm.inS 11) (by decide) (G.T.drop (L.pos + m + n3)))
      rw [← e6] at HB6
      have G6 := Lib.hid (HQ.out.trans HI.out.dl u2)
      have HEO := eol58 G HG.out L6 w6 u1 (by have := u3.line; omega)
      unfold EolOut at HEO
      rw [hp6] at HEO
      obtain ⟨er, her⟩ : ∃ er, dm.eol (G.T.drop (L.pos + m + n3 + q)) = er := ⟨_, rfl⟩
      rw [her] at HEO
      have HEO := Lib.hid HEO
      have HER := Lib.hid her
      have H6 := Lib.hid (And.intro u3 (And.intro e6 (And.intro hrl hq1)))
      clear u1 u2 u3 u4 u5 h6 e6 hp6 hrl hq1 t3 t4 e3 hp3 hend HLN her HT HQ
      cases er with
      | some e0 =>
        go_wp2_with fail
        refine HEO.out.mono ?_
        rintro e w7 ⟨rfl, h7⟩
        obtain ⟨L7, v1, v2, v3, v4⟩ := h7.out
        obtain ⟨t3, t4, e3, hp3, hend, HLN⟩ := H35.out
        obtain ⟨u3, e6, hrl, hq1⟩ := H6.out
        have eN : eolN (G.T.drop (L.pos + m + n3 + q)) = e0 := by unfold eolN; rw [HER.out]; rfl
        have heN := eolN_le (G.T.drop (L.pos + m + n3 + q))
        rw [eN, List.length_drop] at heN
        rw [eN] at v3
        have hln7 := (t3.ln.trans u3.ln).trans v3
        have HN := Lib.hid (HI.out.more (n := n3 + q + e0) (b := eolB (G.T.drop (L.pos + m + n3 + q))) HL.out v1 (G6.out.trans HI.out.dl v2) (by simpa using hln7) (by
          rw [brk_add, brk_add, HB3.out, List.drop_drop, HB6.out, List.drop_drop]
          unfold eolB
          rw [eN, show L.pos + m + (n3 + q) = L.pos + m + n3 + q by omega]
          omega) (by omega) (by omega) (fun f => by
          rw [dm.passed]
          simp only []
          rw [← e3, List.drop_drop, HD.out]
          simp only []
          rw [if_pos trivial, ← HD.out, ← e6, List.drop_drop, HER.out]
          simp only []
          rw [List.drop_drop, show L.pos + m + n3 + (q + e0) = L.pos + m + (n3 + q + e0) by omega]))
        have hmm : G.T.length - L.pos - (m + (n3 + q + e0)) < gk := by omega
        clear h7 v1 v2 v3 v4 hln7 t3 t4 e3 hp3 HLN u3 e6 eN heN
        go_wp2_with fail
        go_roundg (G.T.length - L.pos - (m + (n3 + q + e0)))
        case measure => omega
        case rel => exact ⟨L7, m + (n3 + q + e0), rfl, HN⟩
      | none =>
        go_wp2_with fail
        refine HEO.out.mono ?_
        rintro e w7 ⟨rfl, h7⟩
        obtain ⟨L7, v1, v2, v3, v4⟩ := h7.out
        obtain ⟨t3, t4, e3, hp3, hend, HLN⟩ := H35.out
        obtain ⟨u3, e6, hrl, hq1⟩ := H6.out
        have eN : eolN (G.T.drop (L.pos + m + n3 + q)) = 0 := by unfold eolN; rw [HER.out]; rfl
        have eB : eolB (G.T.drop (L.pos + m + n3 + q)) = 0 := by unfold eolB; rw [eN]; rfl
        rw [eN, eB] at v3
        have hln7 := (t3.ln.trans u3.ln).trans v3
        have hr17 := hln7.r1
        have hr07 := hln7.r0
        have hl17 := v1.r1l
        have hst1 := HST.out
        have c2 := v1.cells.2.2.1
        have c3 := v1.cells.2.2.2.1
        have z3 := Rw.fz v1.row 3
        rw [hr07] at c2
        have hw3 : IntKind.i64.wrap ((L1.r0 : Int) + (st : Int)) = (L1.r1 : Int) := by rw [IntKind.wrap_i64]; omega
        have hput := v1.put (L' := { L7 with r1 := L1.r1 }) 3 (.int .i64 (L1.r1 : Int)) rfl ⟨rfl, rfl, rfl, rfl, rfl, rfl, rfl, rfl, rfl, rfl⟩ (fun e => (by rw [show ({ L7 with r1 := L1.r1 } : Lay).nb = L7.nb from rfl, v4] at e; cases e)) (by show L7.r0 ≤ L1.r1; omega) (by show L1.r1 ≤ L7.len; omega) v1.line HG.out
        have HF := Lib.hid (HI.out.fin (n := 0) HL.out hput.1 ((G6.out.trans HI.out.dl v2).trans HI.out.dl hput.2) ⟨hln7.base, hln7.r0, rfl, hln7.sec, hln7.sk, by simpa using hln7.line, hln7.esc⟩ rfl (by omega) (fun f => by
          rw [dm.passed]
          simp only []
          rw [← e3, List.drop_drop, HD.out]
          simp only []
          rw [if_pos trivial, ← HD.out, ← e6, List.drop_drop, HER.out]) v4)
        clear h7 v1 v2 v3 v4 hln7 t3 t4 e3 hp3 HLN u3 e6 eN eB hr17 hr07 hl17 hst1 hput
        go_wp2_with fail
        go_end0
        exact HF.out
    · have h35z : ¬ (c.toNat : Int) = 35 := fun e => h35 (UInt8.toNat_inj.1 (by show c.toNat = 35; omega))
      by_cases h10 : c = 10
      · have h10z : (c.toNat : Int) = 10 := by rw [h10]; rfl
        have hend := getD_lt HC.out (by rw [h10]; decide)
        have hdrop := drop_at hend
        rw [HC.out, h10] at hdrop
        have HD := Lib.hid hdrop
        have hl3 : L3.line = L1.line := t3.line
        have hdn := D4.out.1.down HG.out t4.1 (by omega)
        have c8 := D4.out.1.cells.2.2.2.2.2.2.2.2.1
        have z8 := Rw.fz D4.out.1.row 8
        rw [hl3] at c8 hdn
        have hw8 : IntKind.i64.wrap ((L1.line : Int) + 1) = (L1.line : Int) + 1 := by rw [IntKind.wrap_i64]; omega
        have HV := Lib.hid (adv1 G HG.out L3.down _ hdn.1 t4 (by show L3.pos < _; omega))
        have HDN := Lib.hid (D4.out.2.trans HI.out.dl hdn.2)
        have H10 := Lib.hid (And.intro t3 (And.intro e3 (And.intro hend hp3)))
        clear h35 h10 hdrop t3 t4 e3 hp3 hdn hl3
        go_wp2_with fail
        refine HV.out.mono ?_
        rintro e w6 ⟨rfl, h6⟩
        obtain ⟨t3, e3, hend, hp3⟩ := H10.out
        have hln6 := (t3.ln.trans (Ln.down L3)).trans (Sm.fwd L3.down 1).ln
        have HN := Lib.hid (HI.out.more (n := n3 + 1) (b := 1) HL.out h6.out.1 (HDN.out.trans HI.out.dl h6.out.2) (by simpa using hln6) (by
          rw [brk_add, HB3.out, List.drop_drop, HD.out]
          rfl) (by omega) (by omega) (fun f => by
          rw [dm.passed]
          simp only []
          rw [← e3, List.drop_drop, HD.out]
          simp only []
          rw [if_neg (by decide), ← HD.out, show dm.eol (G.T.drop (L.pos + m + n3)) = some 1 by rw [HD.out]; rfl]
          simp only []
          rw [List.drop_drop, Nat.add_assoc (L.pos + m)]))
        clear h6 hln6 t3 e3 hp3
        go_wp2_with fail
        go_roundg (G.T.length - L.pos - (m + (n3 + 1)))
        case measure => omega
        case rel => exact ⟨L3.down.fwd 1, m + (n3 + 1), rfl, HN⟩
      · have h10z : ¬ (c.toNat : Int) = 10 := fun e => h10 (UInt8.toNat_inj.1 (by show c.toNat = 10; omega))
        by_cases h13 : c = 13
        · have h13z : (c.toNat : Int) = 13 := by rw [h13]; rfl
          have hend := getD_lt HC.out (by rw [h13]; decide)
          have hdrop := drop_at hend
          rw [HC.out, h13] at hdrop
          have HD := Lib.hid hdrop
          have HLN : L3.line = L1.line := t3.line
          have HEO := eol58 G HG.out L3 (w3.drewN nd) D4.out.1 (by omega)
          unfold EolOut at HEO
          rw [hp3] at HEO
          obtain ⟨er, her⟩ : ∃ er, dm.eol (G.T.drop (L.pos + m + n3)) = er := ⟨_, rfl⟩
          rw [her] at HEO
          have HEO := Lib.hid HEO
          have HER := Lib.hid her
          have H13 := Lib.hid (And.intro t3 (And.intro e3 hend))
          clear h35 h10 h13 hdrop t3 t4 e3 hp3 HLN her hend
          cases er with
          | some e0 =>
            go_wp2_with fail
            refine HEO.out.mono ?_
            rintro e w7 ⟨rfl, h7⟩
            obtain ⟨L7, v1, v2, v3, v4⟩ := h7.out
            obtain ⟨t3, e3, hend⟩ := H13.out
            have eN : eolN (G.T.drop (L.pos + m + n3)) = e0 := by unfold eolN; rw [HER.out]; rfl
            have heN := eolN_le (G.T.drop (L.pos + m + n3))
            rw [eN, List.length_drop] at heN
            rw [eN] at v3
            have he1 := eol_pos HER.out (by rw [HD.out]; simp)
            have hln7 := t3.ln.trans v3
            have HN := Lib.hid (HI.out.more (n := n3 + e0) (b := eolB (G.T.drop (L.pos + m + n3))) HL.out v1 (D4.out.2.trans HI.out.dl v2) (by simpa using hln7) (by
              rw [brk_add, HB3.out, List.drop_drop]
              unfold eolB
              rw [eN]
              omega) (by omega) (by omega) (fun f => by
              rw [dm.passed]
              simp only []
              rw [← e3, List.drop_drop, HD.out]
              simp only []
              rw [if_neg (by decide), ← HD.out, HER.out]
              simp only []
              rw [List.drop_drop, Nat.add_assoc (L.pos + m)]))
            clear h7 v1 v2 v3 v4 hln7 t3 e3 eN
            go_wp2_with fail
            go_roundg (G.T.length - L.pos - (m + (n3 + e0)))
            case measure => omega
            case rel => exact ⟨L7, m + (n3 + e0), rfl, HN⟩
          | none =>
            go_wp2_with fail
            refine HEO.out.mono ?_
            rintro e w7 ⟨rfl, h7⟩
            obtain ⟨L7, v1, v2, v3, v4⟩ := h7.out
            obtain ⟨t3, e3, hend⟩ := H13.out
            have eN : eolN (G.T.drop (L.pos + m + n3)) = 0 := by unfold eolN; rw [HER.out]; rfl
            have eB : eolB (G.T.drop (L.pos + m + n3)) = 0 := by unfold eolB; rw [eN]; rfl
            rw [eN, eB] at v3
            have HF := Lib.hid (HI.out.fin (n := n3) HL.out v1 (D4.out.2.trans HI.out.dl v2) (by simpa using t3.ln.trans v3) HB3.out hle3 (fun f => by
              rw [dm.passed]
              simp only []
              rw [← e3, List.drop_drop, HD.out]
              simp only []
              rw [if_neg (by decide), ← HD.out, HER.out]) v4)
            clear h7 v1 v2 v3 v4 t3 e3 eN eB
            go_wp2_with fail
            go_end0
            exact HF.out
        · have h13z : ¬ (c.toNat : Int) = 13 := fun e => h13 (UInt8.toNat_inj.1 (by show c.toNat = 13; omega))
          have HF := Lib.hid (HI.out.fin HL.out D4.out.1 D4.out.2 t3.ln HB3.out hle3 (fun f => by
            unfold dm.passed
            simp only []
            rw [← e3, List.drop_drop]
            by_cases hend : L.pos + m + n3 < G.T.length
            · rw [drop_at hend, HC.out]
              simp [h35, dm.eol, h10, h13]
            · rw [List.drop_eq_nil_of_le (by omega)]) t4.1)
          clear h35 h10 h13 t3 t4 e3 hp3
          go_wp2_with fail
          go_end0
          exact HF.out
end Go.Proofs.YtlcbcgillekphaaGreatDoor.dec
