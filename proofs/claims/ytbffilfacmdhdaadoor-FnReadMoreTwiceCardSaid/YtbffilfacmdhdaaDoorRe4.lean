/-
  Proved: the contract of the buffered reader's fill.
  Conditions: an empty buffer, a reader with bytes left.
-/
import Derived.Test.YtbffilfacmdhdaaDoorRe1
namespace Go.Proofs.YtbffilfacmdhdaaDoor.dec
open Go.RowKit Mem rw
set_option linter.unusedVariables false
set_option linter.unusedSimpArgs false

/-- The buffer is empty, and at its beginning. -/
structure Emp (G : Cfg) (X B : Nat) (w : World) (left : List UInt8) (wx : World) (at_ : Nat) (lb ls : Int) : Prop where
  bx : BX G X B wx [] 0 left at_ lb ls
  but : But [X, B, G.R] w wx
def FillOut (G : Cfg) (X B : Nat) (w : World) (left : List UInt8) (lb ls : Int) (e : Ending) (w' : World) : Prop :=
  e = .returned (.tuple #[]) ∧ Hid (∃ l1 left1 at1, BX G X B w' l1 0 left1 at1 lb ls ∧ 0 < l1.length ∧ l1 ++ left1 = left ∧ But [X, B, G.R] w w')
theorem BX.zero {G : Cfg} {X B : Nat} {w : World} {l : List UInt8} {r : Nat} {left : List UInt8} {at_ : Nat} {lb ls : Int} (h : BX G X B w l r left at_ lb ls) :
    BX G X B ((w.setCell ⟨X, 3, none⟩ (.int .i64 0)).setCell ⟨X, 2, none⟩ (.int .i64 0)) [] 0 left at_ lb ls := by
  have hst : But [X] w ((w.setCell ⟨X, 3, none⟩ (.int .i64 0)).setCell ⟨X, 2, none⟩ (.int .i64 0)) := ((But.refl _ w).setCell (Or.inl (by simp)) _).setCell (Or.inl (by simp)) _
  exact ⟨Rw.set (Rw.set h.row 3 (.int .i64 0)) 2 (.int .i64 0), buf_none (h.buf.but hst (by simpa using h.XB.symm)), Nat.zero_le _, ⟨Rw.but h.rd.row hst (by simpa using h.RX), h.rd.few, h.rd.le⟩, h.ll, h.XB, h.RB, h.RX, h.Xlo, h.Blo, h.bel.trans (hst.below _ h.bel.size (by simpa using h.Xlo))⟩
set_option maxRecDepth 100000 in
set_option maxHeartbeats 2000000 in
theorem fill59 (G : Cfg) (hG : Base G) (X B : Nat) (w : World) (l : List UInt8) (r : Nat) (left : List UInt8) (at_ : Nat) (lb ls : Int) (h : BX G X B w l r left at_ lb ls) (hr : r = l.length) (hl : left ≠ []) :
    Calls Tryd.prog 59 #[.pointer (some ⟨X, 0, none⟩)] w (FillOut G X B w left lb ls) := by
  have HH := Lib.hid h
  have HG := Lib.hid hG
  have HL := Lib.hid hl
  obtain ⟨c0, c1, c2, c3, c4, c5, c6⟩ := h.cells
  rw [← hr] at c3
  have hr4 : r ≤ 4096 := by rw [hr]; exact h.buf.le
  have HR := Lib.hid hr
  have z2 := Rw.fz h.row 2
  have z3 := Rw.fz h.row 3
  have hmr := method_read ⟨G.R, 0, none⟩
  have hna := nil_read ⟨G.R, 0, none⟩
  clear h hG hl hr
  go_enter Tryd.func59, Tryd.ntmps59
  go_upto_if 9 with fail
  go_cut [] from 5 to 41 (fun wx => Hid (Emp G X B w left wx at_ lb ls))
  case first =>
    by_cases hr0 : r = 0
    · have hz : ¬ 0 < (r : Int) := by omega
      have HF : Hid (Emp G X B w left w at_ lb ls) := Lib.hid ⟨by
        have h1 := HH.out
        have : l = [] := List.eq_nil_of_length_eq_zero (by rw [← HR.out]; exact hr0)
        rw [this, hr0] at h1
        exact h1, But.refl _ w⟩
      clear hr0
      go_wp2_with fail
      go_meet
      exact HF
    · have hz : 0 < (r : Int) := by omega
      have hi : (r : Int) ≤ 4096 := by omega
      have hw : IntKind.i64.wrap ((r : Int) - (r : Int)) = 0 := by rw [IntKind.wrap_i64]; omega
      have hrr : r - r = 0 := by omega
      have hcp : ∀ p c2, (Builtin.copy_ #[35, 35] 3 #[.slice (some ⟨B, 0, none⟩) 4096 4096, .slice (some ⟨B, p, none⟩) 0 c2]).run Tryd.prog w.drew = .ok (goInt 0) w.drew := fun p c2 => by
        have := copy_row w.drew B 0 4096 4096 B p 0 c2 0 [] (by omega) (fun j x hx => by simp at hx) rfl (fun j hj => by rw [Nat.zero_add]; exact HH.out.buf.room j hj) (fun j hj => by rw [Nat.zero_add]; exact HH.out.buf.free j hj) 3
        exact this
      have HF : Hid (∀ q, Emp G X B w left (((w.drewN q).setCell ⟨X, 3, none⟩ (.int .i64 0)).setCell ⟨X, 2, none⟩ (.int .i64 0)) at_ lb ls) := Lib.hid fun q => ⟨(HH.out.quiet (But.refl [] w).drewN).zero, (((But.refl _ w).drewN).setCell (Or.inl (by simp)) _).setCell (Or.inl (by simp)) _⟩
      have HCP := Lib.hid hcp
      clear hr0 hcp
      by_cases h4 : 4096 = r
      · subst h4
        clear hz hi hw hrr hr4
        go_wp2_with fail
        refine region_tail 17 (by kernel_rfl) ?_
        simp only [List.take_succ_cons, List.take_zero, List.drop_succ_cons, List.drop_zero]
        repeat still_step
        refine wpStill_nil ?_
        have hcp := HCP.out
        go_wp2
        clear hcp
        go_region
        all_goals
          go_wp2_with fail
          go_meet
          exact Lib.hid (HF.out 2)
      · have h4i : (r : Int) < 4096 := by omega
        go_wp2_with fail
        refine region_tail 17 (by kernel_rfl) ?_
        simp only [List.take_succ_cons, List.take_zero, List.drop_succ_cons, List.drop_zero]
        repeat still_step
        refine wpStill_nil ?_
        have hcp := HCP.out
        go_wp2
        clear hcp
        go_region
        all_goals
          go_wp2_with fail
          go_meet
          exact Lib.hid (HF.out 2)
  case rest =>
    have hE := hcut
    clear hcut c0 c1 c2 c3 c4 c5 c6 z2 z3 hr4
    obtain ⟨c0, c1, c2, c3, c4, c5, c6⟩ := hE.out.bx.cells
    have c3' : wc.cell? ⟨X, 3, none⟩ = some (.int .i64 0) := c3
    clear c3
    go_wp2_with fail
    go_quiet (fail)
    go_wp2_with fail
    clear c0 c1 c2 c3' c4 c5 c6
    have HS : Hid (∃ at1, Emp G X B w left (wc.drewN nq) at1 lb ls ∧ (G.zs = [] ∨ dist (j0 G) G.zs.length at1 < 100)) := Lib.hid ⟨at_, ⟨hE.out.bx.quiet (But.refl [] wc).drewN, hE.out.but.drewN⟩, by
      by_cases hz : G.zs = []
      · exact .inl hz
      · exact .inr (by have h1 := dist_lt (j0 G) G.zs.length at_ (j0_spec G HG.out hz).1; have h2 := HG.out.few; omega)⟩
    go_loopg [2, 3, 4] 100 (fun g s2 s3 s4 wr => g ≤ 100 ∧ s2 = .int .i64 g ∧ Hid (∃ at1, Emp G X B w left wr at1 lb ls ∧ (G.zs = [] ∨ dist (j0 G) G.zs.length at1 < g) ∧ 0 < g))
    case atStart => exact ⟨Nat.le_refl _, rfl, Lib.hid (by obtain ⟨a, h1, h2⟩ := HS.out; exact ⟨a, h1, h2, by omega⟩)⟩
    case round =>
      obtain ⟨hg, rfl, hI⟩ := hrel
      obtain ⟨at1, hE1, hdi, hg0⟩ := hI.out
      have hgi : 0 < (gk : Int) := by omega
      obtain ⟨y0, y1, y2, y3, y4, y5, y6⟩ := hE1.bx.cells
      have y3' : wr.cell? ⟨X, 3, none⟩ = some (.int .i64 0) := y3
      have hq := hE1.bx.quiet (But.refl [] wr).drew
      have HR2 : Hid (Calls Tryd.prog 48 #[.pointer (some ⟨G.R, 0, none⟩), .slice (some ⟨B, 0, none⟩) 4096 4096] wr.drew fun e w' => ∃ m at' : Nat, e = .returned (.tuple #[.int .i64 m, .nilIface]) ∧ Hid (Red G wr.drew w' B 4096 [] left at1 m at')) := Lib.hid (read_any G HG.out B 4096 [] left at1 wr.drew hq.ll (by omega) hq.RB HL.out hq.rd hq.bel hq.buf)
      have hXR : ¬ X = G.R := fun e => hE1.bx.RX e.symm
      have hXB : ¬ X = B := hE1.bx.XB
      have hXlt := Rw.lt hE1.bx.row
      have v3 := Rw.fz hE1.bx.row 3
      have H1 := Lib.hid (And.intro hE1 (And.intro hdi hg0))
      clear hE1 hdi hg0 hI hq y3 y2 y4 y5 y6 HS hE
      go_wp2_with fail
      go_region_held3 (fun wx => wx.cell? ⟨X, 0, none⟩ = some (.slice (some ⟨B, 0, none⟩) 4096 4096) ∧ wx.cell? ⟨X, 1, none⟩ = some (.iface 29 (.pointer (some ⟨G.R, 0, none⟩))) ∧ wx.cell? ⟨X, 3, none⟩ = some (.int .i64 0)) (first | exact ⟨y0, y1, y3'⟩ | exact ⟨d0, d1, d3⟩) (first | (go_at_call 48; (with_reducible refine HR2.out.mono ?_); rintro e w1 ⟨m, at', rfl, hred⟩; have d0 : w1.cell? ⟨X, 0, none⟩ = some (.slice (some ⟨B, 0, none⟩) 4096 4096) := hred.out.but.cellAt y0 (by simp; exact ⟨hXR, hXB⟩); have d1 : w1.cell? ⟨X, 1, none⟩ = some (.iface 29 (.pointer (some ⟨G.R, 0, none⟩))) := hred.out.but.cellAt y1 (by simp; exact ⟨hXR, hXB⟩); have d3 : w1.cell? ⟨X, 3, none⟩ = some (.int .i64 0) := hred.out.but.cellAt y3' (by simp; exact ⟨hXR, hXB⟩); have f3 : w1.frozen? ⟨X, 3, none⟩ = false := (hred.out.but.frozen (p := ⟨X, 3, none⟩) hXlt (by simp; exact ⟨hXR, hXB⟩)).trans v3))
      all_goals
        have HRED := Lib.hid hred
        clear hred HR2 y0 y1 y3' d0 d1 hmr hna
        obtain ⟨hE1, hdi, hg0⟩ := H1.out
        have b2 := hE1.bx
        have hred := HRED.out
        have hbw : But [G.R, B] wr w1 := (((But.refl [] wr).drew).mono (by simp)).trans hred.but
        obtain ⟨n1, n2⟩ := rd_next HG.out b2.rd ⟨hred.m1, hred.m2, hred.buf, hred.row, hbw, hred.all, hred.some⟩ HL.out (by simp)
        have hm1 := hred.m1
        have hm2 := hred.m2
        have hlb := b2.ll
        have hlpos : 0 < left.length := List.length_pos_iff.2 HL.out
        have hbuf : BufAt w1 B (left.take m) 4096 := hred.buf
        have b3 : BX G X B w1 [] 0 (left.drop m) at' lb ls := ⟨Rw.but b2.row hbw (by simp; exact ⟨hXR, hXB⟩), buf_none hbuf, Nat.zero_le _, n1, by rw [List.length_drop]; omega, b2.XB, b2.RB, b2.RX, b2.Xlo, b2.Blo, b2.bel.trans (hbw.below _ b2.bel.size (by simp; exact ⟨HG.out.rlo, b2.Blo⟩))⟩
        have hbut : But [X, B, G.R] w w1 := hE1.but.trans (hbw.mono (by simp))
        have hall : G.zs = [] → m ≠ 0 := fun hz => by have := (hred.all hz).2; simp at this; omega
        have H4 := Lib.hid (And.intro b3 (And.intro hbut (And.intro hbuf (And.intro n2 (And.intro hm1 (And.intro hm2 (And.intro hall (And.intro hdi hg0))))))))
        clear hE1 hdi hg0 b2 hred hbw n1 n2 hm1 hm2 hlb hbuf b3 hbut hall HRED H1
        cases m with
        | zero =>
          have HN : Hid (gk - 1 < gk ∧ ((gk : Int) - 1 = ((gk - 1 : Nat) : Int)) ∧ ∃ at1, Emp G X B w left (w1.setCell ⟨X, 3, none⟩ (.int .i64 0)) at1 lb ls ∧ (G.zs = [] ∨ dist (j0 G) G.zs.length at1 < gk - 1) ∧ 0 < gk - 1) := Lib.hid (by
            obtain ⟨b3, hbut, hbuf, n2, hm1, hm2, hall, hdi, hg0⟩ := H4.out
            have hz : G.zs ≠ [] := fun e => hall e rfl
            have hd1 : dist (j0 G) G.zs.length at1 < gk := by rcases hdi with e | e; exact absurd e hz; exact e
            have hd2 : dist (j0 G) G.zs.length at' < dist (j0 G) G.zs.length at1 := by
              unfold rank at n2
              rw [Nat.sub_zero] at n2
              omega
            rw [List.drop_zero] at b3
            refine ⟨by omega, by omega, at', ⟨b3.put 3 (.int .i64 0) [] 0 lb ls rfl b3.buf (Nat.le_refl _), hbut.setCell (Or.inl (by simp)) _⟩, .inr (by omega), by omega⟩)
          have hw0 : IntKind.i64.wrap ((gk : Int) - 1) = ((gk - 1 : Nat) : Int) := by have := HN.out.1; rw [IntKind.wrap_i64]; omega
          clear H4
          go_wp2_with fail
          go_roundg (gk - 1)
          case measure => exact HN.out.1
          case rel => exact ⟨by omega, rfl, Lib.hid HN.out.2.2⟩
        | succ m =>
          have hmi : 0 < (m : Int) + 1 := by omega
          have hmi2 : ¬ ((m : Int) + 1) < 0 := by omega
          have hw3 : IntKind.i64.wrap (0 + ((m : Int) + 1)) = (m : Int) + 1 := by have := H4.out.2.2.2.2.2.1; simp at this; rw [IntKind.wrap_i64]; omega
          have hw4 : IntKind.i64.wrap ((m : Int) + 1) = (m : Int) + 1 := by have := H4.out.2.2.2.2.2.1; simp at this; rw [IntKind.wrap_i64]; omega
          have FIN : Hid (∃ l1 left1 at1, BX G X B (w1.setCell ⟨X, 3, none⟩ (.int .i64 ((m : Int) + 1))) l1 0 left1 at1 lb ls ∧ 0 < l1.length ∧ l1 ++ left1 = left ∧ But [X, B, G.R] w (w1.setCell ⟨X, 3, none⟩ (.int .i64 ((m : Int) + 1)))) := Lib.hid (by
            obtain ⟨b4, hbut4, hbuf4, n2, hm1, hm2, hall, hdi, hg0⟩ := H4.out
            have hlt : (left.take (m + 1)).length = m + 1 := by rw [List.length_take]; omega
            exact ⟨left.take (m + 1), left.drop (m + 1), at', b4.put 3 (.int .i64 ((m : Int) + 1)) (left.take (m + 1)) 0 lb ls (by rw [hlt]; rfl) hbuf4 (Nat.zero_le _), by rw [hlt]; omega, List.take_append_drop _ _, hbut4.setCell (Or.inl (by simp)) _⟩)
          clear H4
          go_wp2_with fail
          go_end0
          exact ⟨rfl, FIN⟩
end Go.Proofs.YtbffilfacmdhdaaDoor.dec
