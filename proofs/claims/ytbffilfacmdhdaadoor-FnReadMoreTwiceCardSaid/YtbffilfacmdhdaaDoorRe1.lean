/-
  Proved: the contract of the buffered reader's Read.
  Conditions: a reader with bytes left, a row with room.
-/
import Derived.Test.YtbffilfacmdhdaaDoorRe0
namespace Go.Proofs.YtbffilfacmdhdaaDoor.dec
open Go.RowKit Mem rw
set_option linter.unusedVariables false
set_option linter.unusedSimpArgs false

/-- What Read leaves. -/
structure RdOut (G : Cfg) (X B P : Nat) (w : World) (l : List UInt8) (r : Nat) (left : List UInt8) (at_ : Nat) (d : List UInt8) (cap k : Nat) (w' : World) (j : Nat) (l' : List UInt8) (r' : Nat) (left' : List UInt8) (at' : Nat) (lb' ls' : Int) : Prop where
  bx : BX G X B w' l' r' left' at' lb' ls'
  jk : j ≤ k
  dst : BufAt w' P (d ++ (l.drop r ++ left).take j) cap
  rest : l'.drop r' ++ left' = (l.drop r ++ left).drop j
  but : But [X, B, G.R, P] w w'
  less : (l'.drop r' ++ left').length + rank G left'.length at' < (l.drop r ++ left).length + rank G left.length at_
/-- The reader has something in its buffer. -/
structure Full (G : Cfg) (X B : Nat) (w : World) (l : List UInt8) (r : Nat) (left : List UInt8) (at_ : Nat) (wx : World) (l1 : List UInt8) (r1 : Nat) (left1 : List UInt8) (at1 : Nat) (lb1 ls1 : Int) : Prop where
  bx : BX G X B wx l1 r1 left1 at1 lb1 ls1
  ne : r1 < l1.length
  rest : l1.drop r1 ++ left1 = l.drop r ++ left
  but : But [X, B, G.R] w wx
  rk : rank G left1.length at1 ≤ rank G left.length at_
set_option maxRecDepth 100000 in
set_option maxHeartbeats 2000000 in
theorem read57 (G : Cfg) (hG : Base G) (X B P : Nat) (w : World) (l : List UInt8) (r : Nat) (left : List UInt8) (at_ : Nat) (lb ls : Int) (h : BX G X B w l r left at_ lb ls) (hne : l.drop r ++ left ≠ [])
    (d : List UInt8) (cap k c : Nat) (hd : BufAt w P d cap) (hk0 : 0 < k) (hk : d.length + k ≤ cap) (hk4 : k < 4096) (hPX : P ≠ X) (hPB : P ≠ B) (hPR : P ≠ G.R) (hPlo : G.w0.heap.size ≤ P) :
    Calls Tryd.prog 57 #[.pointer (some ⟨X, 0, none⟩), .slice (some ⟨P, d.length, none⟩) k c] w fun e w' => ∃ j : Nat, e = .returned (.tuple #[.int .i64 j, .nilIface]) ∧ Hid (∃ l' r' left' at' lb' ls', RdOut G X B P w l r left at_ d cap k w' j l' r' left' at' lb' ls') := by
  have HH := Lib.hid h
  have HG := Lib.hid hG
  have HD := Lib.hid hd
  have HNE := Lib.hid hne
  have hk0i : ¬ (k : Int) = 0 := by omega
  have hk4i : ¬ (4096 : Int) ≤ (k : Int) := by omega
  obtain ⟨c0, c1, c2, c3, c4, c5, c6⟩ := h.cells
  obtain ⟨n, hn⟩ : ∃ n, l.length = n := ⟨_, rfl⟩
  rw [hn] at c3
  have HN := Lib.hid hn
  have hrl : r ≤ n := by have := h.rl; omega
  have hmr := method_read ⟨G.R, 0, none⟩
  have hna := nil_read ⟨G.R, 0, none⟩
  clear h hG hd hne hn
  go_enter Tryd.func57, Tryd.ntmps57
  go_wp2
  go_quiet (fail)
  go_upto_if 23 with fail
  go_cut [4] from 15 to 108 (fun s4 wx => ∃ l1 r1 left1 at1 lb1 ls1, Hid (Full G X B w l r left at_ wx l1 r1 left1 at1 lb1 ls1))
  case first =>
    by_cases hrn : r = n
    · have hrz : (r : Int) = (n : Int) := by omega
      have hdl : l.drop r = [] := List.drop_eq_nil_of_le (by rw [HN.out]; omega)
      have hleft : left ≠ [] := by
        have := HNE.out
        rw [hdl] at this
        simpa using this
      have z2 : w.frozen? ⟨X, 2, none⟩ = false := Rw.fz HH.out.row 2
      have z3 : w.frozen? ⟨X, 3, none⟩ = false := Rw.fz HH.out.row 3
      have b0 := HH.out.quiet ((But.refl [] w).drewN (n := nq))
      have b1 := b0.put 2 (.int .i64 0) l 0 lb ls rfl b0.buf (Nat.zero_le _)
      have b2 := b1.put 3 (.int .i64 0) [] 0 lb ls rfl (buf_none b1.buf) (Nat.zero_le _)
      have hbut : But [X, B, G.R] w (((w.drewN nq).setCell ⟨X, 2, none⟩ (.int .i64 0)).setCell ⟨X, 3, none⟩ (.int .i64 0)) := (((But.refl _ w).drewN).setCell (Or.inl (by simp)) _).setCell (Or.inl (by simp)) _
      have HB2 := Lib.hid (And.intro b2 hbut)
      have HL := Lib.hid (And.intro hdl hleft)
      clear hrn hdl hleft b0 b1 b2 hbut
      go_wp2_with fail
      obtain ⟨W2, hW2⟩ : ∃ W2, ((w.drewN nq).setCell ⟨X, 2, none⟩ (.int .i64 0)).setCell ⟨X, 3, none⟩ (.int .i64 0) = W2 := ⟨_, rfl⟩
      have b2 := HB2.out
      rw [hW2] at b2 ⊢
      obtain ⟨b2, hbut⟩ := b2
      obtain ⟨y0, y1, y2, y3, y4, y5, y6⟩ := b2.cells
      have hq := b2.quiet (But.refl [] W2).drew
      have HR2 : Hid (Calls Tryd.prog 48 #[.pointer (some ⟨G.R, 0, none⟩), .slice (some ⟨B, 0, none⟩) 4096 4096] W2.drew fun e w' => ∃ m at' : Nat, e = .returned (.tuple #[.int .i64 m, .nilIface]) ∧ Hid (Red G W2.drew w' B 4096 [] left at_ m at')) := Lib.hid (read_any G HG.out B 4096 [] left at_ W2.drew hq.ll (by omega) hq.RB HL.out.2 hq.rd hq.bel hq.buf)
      have HX := Lib.hid (And.intro b2 hbut)
      have hXR : ¬ X = G.R := fun e => b2.RX e.symm
      have hXB : ¬ X = B := b2.XB
      have hXlt := Rw.lt b2.row
      have y4z := Rw.fz b2.row 4
      clear b2 hbut hq hW2 HB2 c0 c1 c2 c3 c4 c5 c6 z2 z3
      go_region_held3 (fun wx => wx.cell? ⟨X, 0, none⟩ = some (.slice (some ⟨B, 0, none⟩) 4096 4096) ∧ wx.cell? ⟨X, 1, none⟩ = some (.iface 29 (.pointer (some ⟨G.R, 0, none⟩)))) (first | exact ⟨y0, y1⟩ | exact ⟨d0, d1⟩ | exact ⟨(World.cell?_setCell_other _ _ _ _ (by simp)).trans d0, (World.cell?_setCell_other _ _ _ _ (by simp)).trans d1⟩) (first | (go_at_call 48; (with_reducible refine HR2.out.mono ?_); rintro e w1 ⟨m, at', rfl, hred⟩; have d0 : w1.cell? ⟨X, 0, none⟩ = some (.slice (some ⟨B, 0, none⟩) 4096 4096) := hred.out.but.cellAt y0 (by simp; exact ⟨hXR, hXB⟩); have d1 : w1.cell? ⟨X, 1, none⟩ = some (.iface 29 (.pointer (some ⟨G.R, 0, none⟩))) := hred.out.but.cellAt y1 (by simp; exact ⟨hXR, hXB⟩); have d4 : w1.cell? ⟨X, 4, none⟩ = some .nilIface := hred.out.but.cellAt y4 (by simp; exact ⟨hXR, hXB⟩); have f4 : w1.frozen? ⟨X, 4, none⟩ = false := (hred.out.but.frozen (p := ⟨X, 4, none⟩) hXlt (by simp; exact ⟨hXR, hXB⟩)).trans y4z))
      all_goals
        have HRED := Lib.hid hred
        clear hred HR2 y0 y1 y2 y3 y4 y5 y6 d0 d1 hmr hna
        obtain ⟨b2, hbut⟩ := HX.out
        have hred := HRED.out
        have hbw : But [G.R, B] W2 w1 := (((But.refl [] W2).drew).mono (by simp)).trans hred.but
        obtain ⟨n1, n2⟩ := rd_next HG.out b2.rd ⟨hred.m1, hred.m2, hred.buf, hred.row, hbw, hred.all, hred.some⟩ HL.out.2 (by simp)
        have hm1 := hred.m1
        have hm2 := hred.m2
        have hlb := b2.ll
        have hbuf : BufAt w1 B (left.take m) 4096 := hred.buf
        have b3 : BX G X B w1 [] 0 (left.drop m) at' lb ls := ⟨Rw.but b2.row hbw (by simp; exact ⟨hXR, hXB⟩), buf_none hbuf, Nat.zero_le _, n1, by rw [List.length_drop]; omega, b2.XB, b2.RB, b2.RX, b2.Xlo, b2.Blo, b2.bel.trans (hbw.below _ b2.bel.size (by simp; exact ⟨HG.out.rlo, b2.Blo⟩))⟩
        have b4 := b3.put 4 .nilIface [] 0 lb ls rfl b3.buf (Nat.zero_le _)
        have hst : But [X] w1 (w1.setCell ⟨X, 4, none⟩ .nilIface) := (But.refl _ w1).setCell (Or.inl (by simp)) _
        have hbut4 : But [X, B, G.R] w (w1.setCell ⟨X, 4, none⟩ .nilIface) := (hbut.trans (hbw.mono (by simp))).trans (hst.mono (by simp))
        have hbuf4 := hbuf.but hst (by simpa using fun e => hXB e.symm)
        obtain ⟨W4, hW4⟩ : ∃ W4, w1.setCell ⟨X, 4, none⟩ .nilIface = W4 := ⟨_, rfl⟩
        rw [hW4] at b4 hbut4 hbuf4 ⊢
        have H4 := Lib.hid (And.intro b4 (And.intro hbut4 (And.intro hbuf4 (And.intro n2 (And.intro hm1 (And.intro hm2 hlb))))))
        clear d4 f4 hW4 b4 hbut4 hbuf4 n2 hm1 hm2 hlb b3 hst hbuf n1 hbw hred HRED b2 hbut HX
        cases m with
        | zero =>
          have HERR := Lib.hid (err60 G X B W4 _ _ _ _ _ _ H4.out.1)
          go_wp2_with fail
          refine HERR.out.mono ?_
          rintro e w6 ⟨rfl, rfl⟩
          have FIN : Hid (RdOut G X B P w l r left at_ d cap k (W4.setCell ⟨X, 4, none⟩ .nilIface) 0 [] 0 left at' lb ls) := Lib.hid (by
            obtain ⟨b4, hbut4, hbuf4, n2, hm1, hm2, hlb⟩ := H4.out
            have b5 := b4.put 4 .nilIface [] 0 lb ls rfl b4.buf (Nat.zero_le _)
            have hb5 : But [X, B, G.R] w (W4.setCell ⟨X, 4, none⟩ .nilIface) := hbut4.setCell (Or.inl (by simp)) _
            rw [List.drop_zero] at b5
            refine ⟨b5, Nat.zero_le _, ?_, ?_, hb5.mono (by simp), ?_⟩
            · rw [List.take_zero, List.append_nil]
              exact HD.out.but hb5 (by simp; exact ⟨hPX, hPB, hPR⟩)
            · rw [HL.out.1]; rfl
            · rw [HL.out.1]
              simp only [List.drop_nil, List.nil_append, Nat.sub_zero] at *
              omega)
          clear H4
          go_wp2_with fail
          go_ret2
          exact ⟨0, rfl, Lib.hid ⟨[], 0, left, at', lb, ls, FIN.out⟩⟩
        | succ m =>
          have e3 := H4.out.1.cells.2.2.2.1
          have x3 : W4.cell? ⟨X, 3, none⟩ = some (.int .i64 0) := e3
          have v3 := Rw.fz H4.out.1.row 3
          have hmi : ¬ ((m : Int) + 1) = 0 := by omega
          have hmi2 : ¬ ((m : Int) + 1) < 0 := by omega
          have hw3 : IntKind.i64.wrap (0 + ((m : Int) + 1)) = (m : Int) + 1 := by have := H4.out.2.2.2.2.2.1; simp at this; rw [IntKind.wrap_i64]; omega
          have hw4 : IntKind.i64.wrap ((m : Int) + 1) = (m : Int) + 1 := by have := H4.out.2.2.2.2.2.1; simp at this; rw [IntKind.wrap_i64]; omega
          have FIN : Hid (Full G X B w l r left at_ (W4.setCell ⟨X, 3, none⟩ (.int .i64 ((m : Int) + 1))) (left.take (m + 1)) 0 (left.drop (m + 1)) at' lb ls) := Lib.hid (by
            obtain ⟨b4, hbut4, hbuf4, n2, hm1, hm2, hlb⟩ := H4.out
            have hlt : (left.take (m + 1)).length = m + 1 := by rw [List.length_take]; omega
            refine ⟨b4.put 3 (.int .i64 ((m : Int) + 1)) (left.take (m + 1)) 0 lb ls (by rw [hlt]; rfl) hbuf4 (Nat.zero_le _), by rw [hlt]; omega, ?_, hbut4.setCell (Or.inl (by simp)) _, ?_⟩
            · rw [List.drop_zero, List.take_append_drop, HL.out.1]; rfl
            · rw [List.length_drop]; omega)
          clear e3 H4
          go_wp2_with fail
          go_meet
          exact ⟨left.take (m + 1), 0, left.drop (m + 1), at', lb, ls, FIN⟩
    · have hrz : ¬ (r : Int) = (n : Int) := by omega
      have HF : Hid (Full G X B w l r left at_ (w.drewN nq) l r left at_ lb ls) := Lib.hid ⟨HH.out.quiet (But.refl [] w).drewN, by rw [HN.out]; omega, rfl, (But.refl _ w).drewN, Nat.le_refl _⟩
      clear hrn
      go_wp2_with fail
      go_meet
      exact ⟨l, r, left, at_, lb, ls, HF⟩
  case rest =>
    obtain ⟨l1, r1, left1, at1, lb1, ls1, hF⟩ := hcut
    clear c0 c1 c2 c3 c4 c5 c6 hmr hna
    have hf := hF.out
    obtain ⟨c0, c1, c2, c3, c4, c5, c6⟩ := hf.bx.cells
    have hle1 := hf.bx.buf.le
    have hne1 := hf.ne
    obtain ⟨n1, hn1⟩ : ∃ n1, l1.length = n1 := ⟨_, rfl⟩
    rw [hn1] at c3 hle1 hne1
    obtain ⟨m1, hm1⟩ : ∃ m1, n1 - r1 = m1 := ⟨_, rfl⟩
    obtain ⟨q, hq⟩ : ∃ q, min k m1 = q := ⟨_, rfl⟩
    have hdP : BufAt wc P d cap := HD.out.but hf.but (by simp; exact ⟨hPX, hPB, hPR⟩)
    have hyl : (l1.drop r1).length = m1 := by rw [List.length_drop]; omega
    have hcp := copy_row wc.drew P d.length k c B r1 m1 (4096 - r1) q (l1.drop r1) hq (fun j x hx => by
      rw [List.getElem?_drop] at hx
      exact hf.bx.buf.bytes (r1 + j) x hx) hyl (fun j hj => hdP.room (d.length + j) (by omega)) (fun j hj => hdP.free (d.length + j) (by omega)) 3
    have hql : q ≤ m1 := by omega
    have hqk : q ≤ k := by omega
    have hq0 : 0 < q := by omega
    have hput := (hdP.but (But.refl [] wc).drew (by simp)).put ((l1.drop r1).take q) (by rw [List.length_take]; omega)
    obtain ⟨W5, hW5⟩ : ∃ W5, wc.drew.setCells P d.length (Lib.byteCells ((l1.drop r1).take q)) = W5 := ⟨_, rfl⟩
    rw [hW5] at hcp hput
    have hb5 : But [P] wc W5 := (((But.refl [] wc).drew).mono (by simp)).trans hput.2
    have hbx5 := hf.bx.else_ hb5 (fun e => hPX e.symm) (fun e => hPB e.symm) (fun e => hPR e.symm) hPlo
    have htk : (l1.drop r1).take q = (l.drop r ++ left).take q := by
      rw [← hf.rest, List.take_append_of_le_length (by rw [hyl]; exact hql)]
    have H5 : Hid (BX G X B W5 l1 r1 left1 at1 lb1 ls1 ∧ BufAt W5 P (d ++ (l.drop r ++ left).take q) cap ∧ But [X, B, G.R, P] w W5) := Lib.hid ⟨hbx5, by rw [← htk]; exact hput.1, (hf.but.mono (by simp)).trans (hb5.mono (by simp))⟩
    have HIN := Lib.hid (And.intro hf.rest (And.intro hn1 (And.intro hyl (And.intro hf.rk hm1))))
    have i1 : (r1 : Int) ≤ (n1 : Int) := by omega
    have i2 : (n1 : Int) ≤ 4096 := by omega
    have i3 : ¬ 4096 = r1 := by omega
    have HCP := Lib.hid hcp
    clear hf hF hle1 hdP hyl hcp hput hW5 hb5 hbx5 htk hn1 hq
    go_wp2_with fail
    go_cut [4] from 109 to 123 (fun s4 wx => s4 = .int .i64 q ∧ Hid (BX G X B wx l1 r1 left1 at1 lb1 ls1 ∧ BufAt wx P (d ++ (l.drop r ++ left).take q) cap ∧ But [X, B, G.R, P] w wx))
    case first =>
      refine region_tail 14 (by kernel_rfl) ?_
      simp only [List.take_succ_cons, List.take_zero, List.drop_succ_cons, List.drop_zero]
      repeat still_step
      refine wpStill_nil ?_
      have hcp := HCP.out
      go_wp2
      go_meet
      exact ⟨rfl, H5⟩
    case rest =>
      obtain ⟨rfl, h6⟩ := hcut
      clear c0 c1 c2 c3 c4 c5 c6 H5 HCP
      obtain ⟨r2, hr2⟩ : ∃ r2, r1 + q = r2 := ⟨_, rfl⟩
      have hw : IntKind.i64.wrap ((r1 : Int) + (q : Int)) = (r2 : Int) := by rw [IntKind.wrap_i64]; omega
      have c2 := h6.out.1.cells.2.2.1
      have z2 := Rw.fz h6.out.1.row 2
      have hr2l : r2 ≤ l1.length := by rw [HIN.out.2.1]; omega
      have H7 : Hid (BX G X B (wc.setCell ⟨X, 2, none⟩ (.int .i64 (r2 : Int))) l1 r2 left1 at1 lb1 ls1 ∧ BufAt (wc.setCell ⟨X, 2, none⟩ (.int .i64 (r2 : Int))) P (d ++ (l.drop r ++ left).take q) cap ∧ But [X, B, G.R, P] w (wc.setCell ⟨X, 2, none⟩ (.int .i64 (r2 : Int)))) := Lib.hid (by
        obtain ⟨g1, g2, g3⟩ := h6.out
        have hst : But [X] wc (wc.setCell ⟨X, 2, none⟩ (.int .i64 (r2 : Int))) := (But.refl _ wc).setCell (Or.inl (by simp)) _
        exact ⟨g1.put 2 (.int .i64 (r2 : Int)) l1 r2 lb1 ls1 rfl g1.buf hr2l, g2.but hst (by simpa using hPX), g3.trans (hst.mono (by simp))⟩)
      clear h6
      go_upto_region 26 with fail
      go_cut [] from 124 to 131 (fun wx => Hid (BX G X B wx l1 r2 left1 at1 lb1 ls1 ∧ BufAt wx P (d ++ (l.drop r ++ left).take q) cap ∧ But [X, B, G.R, P] w wx))
      case first =>
        go_wp2_with fail
        go_meet
        exact H7
      case rest =>
        clear c2 z2 H7
        have h7 := hcut.out
        obtain ⟨c0, c1, c2, c3, c4, c5, c6⟩ := h7.1.cells
        have z5 := Rw.fz h7.1.row 5
        obtain ⟨p, rfl⟩ : ∃ p, r2 = p + 1 := ⟨r2 - 1, by omega⟩
        have hpl : p < l1.length := by omega
        have hcell := h7.1.buf.bytes p l1[p] (List.getElem?_eq_getElem hpl)
        obtain ⟨x, hx⟩ : ∃ x, l1[p] = x := ⟨_, rfl⟩
        rw [hx] at hcell
        have hxb := x.toNat_lt
        have hwp : IntKind.i64.wrap (((p + 1 : Nat) : Int) - 1) = (p : Int) := by have := h7.1.buf.le; rw [IntKind.wrap_i64]; omega
        have hp4 : (p : Int) < 4096 := by have := h7.1.buf.le; omega
        have HC := Lib.hid h7
        have H8 : Hid (∀ wx, But [] wc wx → BX G X B (wx.setCell ⟨X, 5, none⟩ (.int .i64 (x.toNat : Int))) l1 (p + 1) left1 at1 (x.toNat : Int) ls1 ∧ BufAt (wx.setCell ⟨X, 5, none⟩ (.int .i64 (x.toNat : Int))) P (d ++ (l.drop r ++ left).take q) cap ∧ But [X, B, G.R, P] w (wx.setCell ⟨X, 5, none⟩ (.int .i64 (x.toNat : Int)))) := Lib.hid fun wx hb => by
          obtain ⟨g1, g2, g3⟩ := HC.out
          have hst : But [X] wx (wx.setCell ⟨X, 5, none⟩ (.int .i64 (x.toNat : Int))) := (But.refl _ wx).setCell (Or.inl (by simp)) _
          have g1' := g1.quiet hb
          exact ⟨g1'.put 5 (.int .i64 (x.toNat : Int)) l1 (p + 1) (x.toNat : Int) ls1 rfl g1'.buf g1.rl, (g2.but hb (by simp)).but hst (by simpa using hPX), (g3.trans (hb.mono (by simp))).trans (hst.mono (by simp))⟩
        clear h7 hx hcut
        go_upto_region 27 with fail
        go_cut [] from 132 to 146 (fun wx => Hid (BX G X B wx l1 (p + 1) left1 at1 (x.toNat : Int) ls1 ∧ BufAt wx P (d ++ (l.drop r ++ left).take q) cap ∧ But [X, B, G.R, P] w wx))
        case first =>
          go_region
          all_goals
            go_wp2_with fail
            go_meet
            exact Lib.hid (H8.out _ (But.refl [] wc).drew)
        case rest =>
          clear c0 c1 c2 c3 c4 c5 c6 z5 hcell H8 HC hwp
          have c6 := hcut.out.1.cells.2.2.2.2.2.2
          have z6 := Rw.fz hcut.out.1.row 6
          have FIN : Hid (RdOut G X B P w l r left at_ d cap k (wc.setCell ⟨X, 6, none⟩ (.int .i64 (-1))) q l1 (p + 1) left1 at1 (x.toNat : Int) (-1)) := Lib.hid (by
            obtain ⟨g1, g2, g3⟩ := hcut.out
            obtain ⟨k1, k2, k3, k4, k5⟩ := HIN.out
            have hst : But [X] wc (wc.setCell ⟨X, 6, none⟩ (.int .i64 (-1))) := (But.refl _ wc).setCell (Or.inl (by simp)) _
            have hr : l1.drop (p + 1) ++ left1 = (l.drop r ++ left).drop q := by
              rw [← k1, List.drop_append_of_le_length (by rw [k3]; exact hql), List.drop_drop, hr2]
            refine ⟨g1.put 6 (.int .i64 (-1)) l1 (p + 1) (x.toNat : Int) (-1) rfl g1.buf g1.rl, hqk, g2.but hst (by simpa using hPX), hr, g3.trans (hst.mono (by simp)), ?_⟩
            rw [hr, List.length_drop]
            have : m1 ≤ (l.drop r ++ left).length := by rw [← k1, List.length_append, k3]; omega
            omega)
          clear hcut
          go_wp2_with fail
          go_ret2
          exact ⟨q, rfl, Lib.hid ⟨l1, p + 1, left1, at1, x.toNat, -1, FIN.out⟩⟩
end Go.Proofs.YtbffilfacmdhdaaDoor.dec
