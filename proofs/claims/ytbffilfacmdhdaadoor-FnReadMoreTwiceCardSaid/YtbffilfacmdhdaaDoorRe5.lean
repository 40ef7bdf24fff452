/-
  Proved: the contract of the buffered reader's Discard.
  Conditions: a reader that has at least so many bytes left.
-/
import Derived.Test.YtbffilfacmdhdaaDoorRe4
namespace Go.Proofs.YtbffilfacmdhdaaDoor.dec
open Go.RowKit Mem rw
set_option linter.unusedVariables false
set_option linter.unusedSimpArgs false

/-- While bytes are thrown away. -/
structure DI (G : Cfg) (X B : Nat) (w : World) (rest : List UInt8) (wr : World) (j : Nat) (l : List UInt8) (r : Nat) (left : List UInt8) (at_ : Nat) (lb ls : Int) : Prop where
  bx : BX G X B wr l r left at_ lb ls
  rs : l.drop r ++ left = rest.drop j
  but : But [X, B, G.R] w wr
def DisOut (G : Cfg) (X B : Nat) (w : World) (rest : List UInt8) (k : Nat) (e : Ending) (w' : World) : Prop :=
  e = .returned (.tuple #[.int .i64 k, .nilIface]) ∧ Hid (∃ l r left at_ lb ls, DI G X B w rest w' k l r left at_ lb ls)
set_option maxRecDepth 100000 in
set_option maxHeartbeats 2000000 in
theorem discard55 (G : Cfg) (hG : Base G) (X B : Nat) (w : World) (l : List UInt8) (r : Nat) (left : List UInt8) (at_ : Nat) (lb ls : Int) (h : BX G X B w l r left at_ lb ls)
    (k : Nat) (hk0 : 0 < k) (hkr : k ≤ (l.drop r ++ left).length) (hk4 : k ≤ 100000) :
    Calls Tryd.prog 55 #[.pointer (some ⟨X, 0, none⟩), .int .i64 k] w (DisOut G X B w (l.drop r ++ left) k) := by
  obtain ⟨rest, hrest⟩ : ∃ rest, l.drop r ++ left = rest := ⟨_, rfl⟩
  rw [hrest] at hkr ⊢
  obtain ⟨c0, c1, c2, c3, c4, c5, c6⟩ := h.cells
  have z5 := Rw.fz h.row 5
  have z6 := Rw.fz h.row 6
  have hki : ¬ (k : Int) < 0 := by omega
  have hki2 : ¬ (k : Int) = 0 := by omega
  have HI : Hid (∃ l r left at_ lb ls, DI G X B w rest ((w.setCell ⟨X, 5, none⟩ (.int .i64 (-1))).setCell ⟨X, 6, none⟩ (.int .i64 (-1))) 0 l r left at_ lb ls) := Lib.hid (by
    have b1 := h.put 5 (.int .i64 (-1)) l r (-1) ls rfl h.buf h.rl
    have b2 := b1.put 6 (.int .i64 (-1)) l r (-1) (-1) rfl b1.buf b1.rl
    exact ⟨l, r, left, at_, -1, -1, b2, by rw [hrest]; rfl, ((But.refl _ w).setCell (Or.inl (by simp)) _).setCell (Or.inl (by simp)) _⟩)
  have HG := Lib.hid hG
  clear h hrest hG c0 c1 c2 c3 c4
  go_enter Tryd.func55, Tryd.ntmps55
  go_wp2_with fail
  clear c5 c6 z5 z6
  go_loopg [4, 5, 6, 7] k (fun g s4 s5 s6 s7 wr => g ≤ k ∧ 0 < g ∧ s4 = .int .i64 0 ∧ s5 = .nilIface ∧ s6 = .int .i64 g ∧ Hid (∃ l r left at_ lb ls, DI G X B w rest wr (k - g) l r left at_ lb ls))
  case atStart => exact ⟨Nat.le_refl _, hk0, rfl, rfl, rfl, by rw [Nat.sub_self]; exact HI⟩
  case round =>
    obtain ⟨hg, hg0, rfl, rfl, rfl, hR⟩ := hrel
    obtain ⟨l, r, left, at_, lb, ls, h1⟩ := hR.out
    have HB := Lib.hid (buffered54 G X B wr l r left at_ lb ls h1.bx)
    have H1 := Lib.hid h1
    have hrl := h1.bx.rl
    clear h1 hR HI
    go_wp2_with fail
    refine HB.out.mono ?_
    rintro e w2 ⟨rfl, nd, rfl⟩
    clear HB
    obtain ⟨sk, hsk⟩ : ∃ sk, l.length - r = sk := ⟨_, rfl⟩
    rw [hsk]
    have HSK := Lib.hid hsk
    clear hsk
    go_upto_if 23 with fail
    go_cut [7] from 20 to 27 (fun s7 wx => ∃ (q : Nat) (l1 : List UInt8) (r1 : Nat) (left1 : List UInt8) (at1 : Nat) (lb1 ls1 : Int), s7 = .int .i64 q ∧ Hid (DI G X B w rest wx (k - gk) l1 r1 left1 at1 lb1 ls1 ∧ q = l1.length - r1 ∧ 0 < q ∧ q ≤ 4096))
    case first =>
      by_cases hs0 : sk = 0
      · have hsi : (sk : Int) = 0 := by omega
        have h1 := H1.out
        have hrle : r = l.length := by have := HSK.out; omega
        have hdn : l.drop r = [] := List.drop_eq_nil_of_le (by omega)
        have hrs := h1.rs
        rw [hdn, List.nil_append] at hrs
        have hlne : left ≠ [] := by
          intro e
          rw [e] at hrs
          have := congrArg List.length hrs
          rw [List.length_drop] at this
          simp at this
          omega
        have HFL := Lib.hid (fill59 G HG.out X B (wr.drewN nd) l r left at_ lb ls (h1.bx.quiet (But.refl [] wr).drewN) hrle hlne)
        have HRS := Lib.hid hrs
        clear hs0 hrle hdn hrs hlne h1
        go_wp2_with fail
        refine HFL.out.mono ?_
        rintro e w3 ⟨rfl, h3⟩
        obtain ⟨l1, left1, at1, k1, k2, k3, k4⟩ := h3.out
        have HB := Lib.hid (buffered54 G X B w3 l1 0 left1 at1 lb ls k1)
        obtain ⟨q, hq⟩ : ∃ q, l1.length - 0 = q := ⟨_, rfl⟩
        rw [hq] at HB
        have hl4 := k1.buf.le
        have HF : Hid (∀ n, DI G X B w rest (w3.drewN n) (k - gk) l1 0 left1 at1 lb ls ∧ q = l1.length - 0 ∧ 0 < q ∧ q ≤ 4096) := Lib.hid fun n => ⟨⟨k1.quiet (But.refl [] w3).drewN, by rw [List.drop_zero, k3, HRS.out], ((H1.out.but).trans ((((But.refl [] wr).drewN).mono (by simp)).trans k4)).drewN⟩, hq.symm, by omega, by omega⟩
        clear h3 k1 k2 k3 k4 hq hl4 HFL
        go_wp2_with fail
        refine HB.out.mono ?_
        rintro e w4 ⟨rfl, n4, rfl⟩
        go_wp2_with fail
        go_meet
        exact ⟨q, l1, 0, left1, at1, lb, ls, rfl, Lib.hid (HF.out n4)⟩
      · have hsi : ¬ (sk : Int) = 0 := by omega
        have HF : Hid (DI G X B w rest (wr.drewN nd) (k - gk) l r left at_ lb ls ∧ sk = l.length - r ∧ 0 < sk ∧ sk ≤ 4096) := Lib.hid ⟨⟨H1.out.bx.quiet (But.refl [] wr).drewN, H1.out.rs, H1.out.but.drewN⟩, HSK.out.symm, by omega, by have := H1.out.bx.buf.le; have := HSK.out; omega⟩
        clear hs0
        go_wp2_with fail
        go_meet
        exact ⟨sk, l, r, left, at_, lb, ls, rfl, HF⟩
    case rest =>
      obtain ⟨q, l1, r1, left1, at1, lb1, ls1, rfl, hF⟩ := hcut
      obtain ⟨h1, hq, hq0, hq4⟩ := hF.out
      obtain ⟨c0, c1, c2, c3, c4, c5, c6⟩ := h1.bx.cells
      have z2 := Rw.fz h1.bx.row 2
      have hrl1 := h1.bx.rl
      have hle1 := h1.bx.buf.le
      have H1' := Lib.hid (And.intro h1 (And.intro hq (And.intro hrl1 hle1)))
      by_cases hqg : gk ≤ q
      · -- the last
        obtain ⟨r2, hr2⟩ : ∃ r2, r1 + gk = r2 := ⟨_, rfl⟩
        have hw : IntKind.i64.wrap ((r1 : Int) + (gk : Int)) = (r2 : Int) := by rw [IntKind.wrap_i64]; omega
        have hw2 : IntKind.i64.wrap ((gk : Int) - (gk : Int)) = 0 := by rw [IntKind.wrap_i64]; omega
        have HF : Hid (∃ l r left at_ lb ls, DI G X B w rest (wc.setCell ⟨X, 2, none⟩ (.int .i64 (r2 : Int))) k l r left at_ lb ls) := Lib.hid ⟨l1, r2, left1, at1, lb1, ls1, h1.bx.put 2 (.int .i64 (r2 : Int)) l1 r2 lb1 ls1 rfl h1.bx.buf (by omega), by
          have := congrArg (List.drop gk) h1.rs
          rw [List.drop_append_of_le_length (by rw [List.length_drop]; omega), List.drop_drop, List.drop_drop, hr2, show k - gk + gk = k by omega] at this
          exact this, h1.but.setCell (Or.inl (by simp)) _⟩
        by_cases hqe : gk = q
        · have hqi : ¬ (gk : Int) < (q : Int) := by omega
          have hqq : (q : Int) = (gk : Int) := by omega
          subst hqe
          clear h1 hq hF hqg H1 H1' hr2 hqq
          go_wp2_with fail
          go_ret2
          exact ⟨rfl, HF⟩
        · have hqi : (gk : Int) < (q : Int) := by omega
          clear h1 hq hF hqg H1 H1' hr2 hqe
          go_wp2_with fail
          go_ret2
          exact ⟨rfl, HF⟩
      · have hqi : ¬ (gk : Int) < (q : Int) := by omega
        obtain ⟨r2, hr2⟩ : ∃ r2, r1 + q = r2 := ⟨_, rfl⟩
        obtain ⟨g2, hg2⟩ : ∃ g2, gk - q = g2 := ⟨_, rfl⟩
        have hw : IntKind.i64.wrap ((r1 : Int) + (q : Int)) = (r2 : Int) := by rw [IntKind.wrap_i64]; omega
        have hw2 : IntKind.i64.wrap ((gk : Int) - (q : Int)) = (g2 : Int) := by rw [IntKind.wrap_i64]; omega
        have hg2i : ¬ (g2 : Int) = 0 := by omega
        have HF : Hid (g2 < gk ∧ g2 ≤ k ∧ 0 < g2 ∧ ∃ l r left at_ lb ls, DI G X B w rest (wc.setCell ⟨X, 2, none⟩ (.int .i64 (r2 : Int))) (k - g2) l r left at_ lb ls) := Lib.hid ⟨by omega, by omega, by omega, l1, r2, left1, at1, lb1, ls1, h1.bx.put 2 (.int .i64 (r2 : Int)) l1 r2 lb1 ls1 rfl h1.bx.buf (by omega), by
          have := congrArg (List.drop q) h1.rs
          rw [List.drop_append_of_le_length (by rw [List.length_drop]; omega), List.drop_drop, List.drop_drop, hr2, show k - gk + q = k - g2 by omega] at this
          exact this, h1.but.setCell (Or.inl (by simp)) _⟩
        clear h1 hq hF hqg H1 H1' hr2 hg2
        go_wp2_with fail
        go_roundg g2
        case measure => exact HF.out.1
        case rel => exact ⟨HF.out.2.1, HF.out.2.2.1, rfl, rfl, rfl, Lib.hid HF.out.2.2.2⟩
end Go.Proofs.YtbffilfacmdhdaaDoor.dec
