/-
  Proved: the decoder's lower functions once more, told of a plain place in the text: ensure, at, advance, take, takeEOL, takeEsc, syntaxErrorf, reset · the contracts of the decoder's consumeLine, advanceToSection (but for the reading away of parts), advanceTagComma, Next.
  Conditions: each law's own; a text of at most 4000 bytes where one is read.
-/
import Derived.Test.YtlcbcgillekphaaGreatDoorDha
import Derived.Test.YtlcbcgillekphaaGreatDoorGk
import Derived.Test.YtlcbcgillekphaaGreatDoorEscN
import Derived.Deep.RegionHeld3
namespace Go.Proofs.YtlcbcgillekphaaGreatDoor.dec
open Go.RowKit Mem rw
set_option linter.unusedVariables false
set_option linter.unusedSimpArgs false


theorem rev0 : ∀ x : Fin 256, esc.rev 0 (UInt8.ofNat x.val) = dm.rv 0 (UInt8.ofNat x.val) := by decide +kernel
theorem rev1 : ∀ x : Fin 256, esc.rev 1 (UInt8.ofNat x.val) = dm.rv 1 (UInt8.ofNat x.val) := by decide +kernel
theorem rev2 : ∀ x : Fin 256, esc.rev 2 (UInt8.ofNat x.val) = dm.rv 2 (UInt8.ofNat x.val) := by decide +kernel
theorem rev3 : ∀ x : Fin 256, esc.rev 3 (UInt8.ofNat x.val) = dm.rv 3 (UInt8.ofNat x.val) := by decide +kernel
theorem rev4 : ∀ x : Fin 256, esc.rev 4 (UInt8.ofNat x.val) = dm.rv 4 (UInt8.ofNat x.val) := by decide +kernel
theorem rev_rv (k : Nat) (hk : k ≤ 4) (c : UInt8) : esc.rev (k : Int) c = dm.rv k c := by
  have e : c = UInt8.ofNat (⟨c.toNat, c.toNat_lt⟩ : Fin 256).val := by simp
  rw [e]
  obtain rfl | rfl | rfl | rfl | rfl : k = 0 ∨ k = 1 ∨ k = 2 ∨ k = 3 ∨ k = 4 := by omega
  · exact rev0 _
  · exact rev1 _
  · exact rev2 _
  · exact rev3 _
  · exact rev4 _
theorem esc_tab {w : World} {E : Nat} {k : Nat} (hk : k ≤ 4) (h : esc.EscAt w E k) : ∃ l T, Rw w E l T ∧ ∀ c : UInt8, l[256 + c.toNat]? = some (.int .u8 ((dm.rv k c).toNat : Int)) := by
  refine ⟨_, _, h, fun c => ?_⟩
  have hc := c.toNat_lt
  rw [List.getElem?_append_left (by simp; omega), List.getElem?_append_right (by simp)]
  simp only [List.length_map, List.length_range, Nat.add_sub_cancel_left, List.getElem?_map]
  rw [List.getElem?_range (by omega)]
  simp only [Option.map_some]
  rw [show UInt8.ofNat c.toNat = c by simp, rev_rv k hk c]
/-- A decoder stands at a place m of its text; n bytes lie ahead in its buffer; the slices of H are held. -/
structure ChL (b : Bool) (G : Cfg) (L0 : Lay) (w0 : World) (H : List (Option Addr × List UInt8)) (x s y : Nat) (n : Nat) (w : World) (L : Lay) : Prop where
  dl : DL G L w
  step : Step G L0 w0 L w
  pos : L.pos = x
  sec : L.sec = s
  frm : L.frm = y
  line : L.line = 1 + dm.breaks (G.T.take x)
  sk : L.sk = b
  esc : L.esc.length ≤ x
  av : n = 0 ∨ Av G L n
  held : ∀ p ∈ H, Held G L w p.1 p.2
def Ch (b : Bool) (G : Cfg) (L0 : Lay) (w0 : World) (H : List (Option Addr × List UInt8)) (x s y : Nat) (n : Nat) (w : World) : Prop := ∃ L, ChL b G L0 w0 H x s y n w L
theorem Step.refl (G : Cfg) (L : Lay) (w : World) : Step G L w L w := (Go.refl G L w).toStep
section
variable {b : Bool} {G : Cfg} {L0 : Lay} {w0 : World} {H : List (Option Addr × List UInt8)} {x s y n : Nat} {w : World} {L : Lay}
theorem ChL.restart (c : ChL b G L0 w0 H x s y n w L) : ChL b G L w H x s y n w L := ⟨c.dl, Step.refl G L w, c.pos, c.sec, c.frm, c.line, c.sk, c.esc, c.av, c.held⟩
theorem ChL.drop (c : ChL b G L0 w0 H x s y n w L) : ChL b G L0 w0 [] x s y n w L := ⟨c.dl, c.step, c.pos, c.sec, c.frm, c.line, c.sk, c.esc, c.av, fun p hp => by simp at hp⟩
theorem ChL.zer (c : ChL b G L0 w0 H x s y n w L) : ChL b G L0 w0 H x s y 0 w L := ⟨c.dl, c.step, c.pos, c.sec, c.frm, c.line, c.sk, c.esc, .inl rfl, c.held⟩
theorem ChL.le (c : ChL b G L0 w0 H x s y n w L) : x ≤ G.T.length := by rw [← c.pos]; have := c.dl.blen; have := c.dl.r1l; unfold Lay.pos; omega
theorem ChL.from_le (c : ChL b G L0 w0 H x s y n w L) : y ≤ x := by rw [← c.pos, ← c.frm]; have := c.dl.r01; unfold Lay.pos Lay.frm; omega
theorem ChL.lines (hG : Base G) (c : ChL b G L0 w0 H x s y n w L) : L.line ≤ 4001 := by
  rw [c.line]
  have h1 := dm.breaks_le (G.T.take x)
  have h2 := hG.tlen
  rw [List.length_take] at h1
  omega
theorem take_brk (T : List UInt8) (a k : Nat) : dm.breaks (T.take (a + k)) = dm.breaks (T.take a) + dm.breaks ((T.drop a).take k) := by
  rw [List.take_add, dm.breaks_app]
/-- What a step on k bytes leaves. -/
theorem ChL.ln (c : ChL b G L0 w0 H x s y n w L) {L' : Lay} {w' : World} {k bb n' : Nat} (d : DL G L' w') (g : Go G L w L' w') (l : Ln L L' k bb) (hb : dm.breaks ((G.T.drop x).take k) = bb) (ha : n' = 0 ∨ Av G L' n') :
    ChL b G L0 w0 H (x + k) s y n' w' L' := by
  refine ⟨d, c.step.trans g.toStep, ?_, ?_, ?_, ?_, ?_, ?_, ha, fun p hp => (c.held p hp).go c.dl g⟩
  · rw [l.pos, c.pos]
  · rw [l.sec, c.sec]
  · rw [l.frm, c.frm]
  · show L'.line = 1 + dm.breaks (G.T.take (x + k))
    rw [l.line, c.line, take_brk, hb]; omega
  · rw [l.sk, c.sk]
  · show L'.esc.length ≤ x + k
    rw [l.esc]; have := c.esc; omega
theorem ChL.hold (c : ChL b G L0 w0 H x s y n w L) {a : Option Addr} {l : List UInt8} (h : Held G L w a l) : ChL b G L0 w0 ((a, l) :: H) x s y n w L :=
  ⟨c.dl, c.step, c.pos, c.sec, c.frm, c.line, c.sk, c.esc, c.av, fun p hp => by
    rcases List.mem_cons.1 hp with e | e
    · rw [e]; exact h
    · exact c.held p e⟩
theorem ChL.quiet (c : ChL b G L0 w0 H x s y n w L) {w' : World} (hb : But [] w w') : ChL b G L0 w0 H x s y n w' L := by
  obtain ⟨q1, q2⟩ := c.dl.quiet hb
  exact ⟨q1, c.step.trans q2.toStep, c.pos, c.sec, c.frm, c.line, c.sk, c.esc, c.av, fun p hp => (c.held p hp).go c.dl q2⟩
theorem Ch.drop (c : Ch b G L0 w0 H x s y n w) : Ch b G L0 w0 [] x s y n w := c.elim fun L c => ⟨L, c.drop⟩
theorem Ch.le (c : Ch b G L0 w0 H x s y n w) : x ≤ G.T.length := c.elim fun _ c => c.le
theorem Ch.size (c : Ch b G L0 w0 H x s y n w) : G.w0.heap.size ≤ w.heap.size := c.elim fun _ c => c.dl.bel.size
theorem Ch.from_le (c : Ch b G L0 w0 H x s y n w) : y ≤ x := c.elim fun _ c => c.from_le
theorem Ch.zer (c : Ch b G L0 w0 H x s y n w) : Ch b G L0 w0 H x s y 0 w := c.elim fun L c => ⟨L, c.zer⟩
theorem Ch.quiet (c : Ch b G L0 w0 H x s y n w) {w' : World} (hb : But [] w w') : Ch b G L0 w0 H x s y n w' := c.elim fun L c => ⟨L, c.quiet hb⟩
theorem Ch.drewN (c : Ch b G L0 w0 H x s y n w) (q : Nat) : Ch b G L0 w0 H x s y n (w.drewN q) := c.quiet ((But.refl [] w).drewN)
theorem Ch.made {f : Nat → Bool} {R : Nat} {w' : World} (c : Ch b G L0 w0 H x s y n w) (h : set.Mk w f R w') : Ch b G L0 w0 H x s y n w' := c.quiet (But.ofBelow h.2.2)
/-- The cells that the decoder's functions read themselves. -/
theorem Ch.cells (hG : Base G) (c : Ch b G L0 w0 H x s y n w) : ∃ r0 r1 : Nat, w.cell? ⟨G.D, 2, none⟩ = some (.int .i64 r0) ∧ w.cell? ⟨G.D, 3, none⟩ = some (.int .i64 r1) ∧ IntKind.i64.wrap ((r1 : Int) - (r0 : Int)) = ((x - y : Nat) : Int) ∧
    w.cell? ⟨G.D, 5, none⟩ = some (.int .u8 s) ∧ w.cell? ⟨G.D, 6, none⟩ = some (.bool b) ∧ (∀ j, w.frozen? ⟨G.D, j, none⟩ = false) := by
  obtain ⟨L, c⟩ := c
  obtain ⟨c0, c1, c2, c3, c4, c5, c6, c7, c8, c9⟩ := c.dl.cells
  rw [c.sec] at c5
  rw [c.sk] at c6
  refine ⟨L.r0, L.r1, c2, c3, ?_, c5, c6, fun j => Rw.fz c.dl.row j⟩
  have h1 := c.dl.r01
  have h2 := c.dl.r1l
  have h3 := c.dl.lenle hG
  have e1 := c.pos
  have e2 := c.frm
  unfold Lay.pos at e1
  unfold Lay.frm at e2
  rw [IntKind.wrap_i64]; omega
/-- A store of the part that is due. -/
theorem Ch.sec (hG : Base G) (c : Ch b G L0 w0 H x s y n w) (p : Nat) (v : Value) (hv : v = .int .u8 p) : Ch b G L0 w0 H x p y n (w.setCell ⟨G.D, 5, none⟩ v) := by
  subst hv
  obtain ⟨L, c⟩ := c
  have hp := c.dl.put (L' := { L with sec := p }) 5 (.int .u8 p) rfl ⟨rfl, rfl, rfl, rfl, rfl, rfl, rfl, rfl, rfl, rfl⟩ (fun e => (c.dl.nbz e).2.1) c.dl.r01 c.dl.r1l c.dl.line hG
  exact ⟨_, hp.1, c.step.trans hp.2.toStep, c.pos, rfl, c.frm, c.line, c.sk, c.esc, c.av, fun q hq => (c.held q hq).go c.dl hp.2⟩
theorem Ch.ens (hG : Base G) (c : Ch b G L0 w0 H x s y n w) :
    Calls Tryz.prog 27 #[.pointer (some ⟨G.D, 0, none⟩), .int .i64 1] w fun e w' => e = .returned (.bool (decide (x < G.T.length))) ∧ Hid (Ch b G L0 w0 H x s y 1 w') := by
  obtain ⟨L, c⟩ := c
  refine (ens1 G hG L w c.dl).mono ?_
  rintro e w1 ⟨he, hE⟩
  obtain ⟨L1, d1, d2, d3, d4, d5, d6⟩ := hE.out
  refine ⟨by rw [he, c.pos]; rfl, Lib.hid ⟨L1, ?_⟩⟩
  have := c.ln (k := 0) (bb := 0) d1 d2 d3.sm.ln (by rw [List.take_zero]; rfl) (.inr d4)
  simpa using this
theorem Ch.at0 (hG : Base G) (c : Ch b G L0 w0 H x s y 1 w) :
    Calls Tryz.prog 45 #[.pointer (some ⟨G.D, 0, none⟩), .int .i64 0] w fun e w' => e = .returned (.int .u8 (G.T.getD x 0).toNat) ∧ ∃ q, w.drewN q = w' := by
  obtain ⟨L, c⟩ := c
  rw [← c.pos]
  exact dec.at0 G hG L w c.dl (c.av.resolve_left (by decide))
theorem Ch.adv (hG : Base G) (c : Ch b G L0 w0 H x s y 1 w) (hl : x < G.T.length) (hc : G.T.getD x 0 ≠ 10) :
    Calls Tryz.prog 48 #[.pointer (some ⟨G.D, 0, none⟩), .int .i64 1] w fun e w' => e = .returned (.tuple #[]) ∧ Hid (Ch b G L0 w0 H (x + 1) s y 0 w') := by
  obtain ⟨L, c⟩ := c
  refine (adv1 G hG L w c.dl (c.av.resolve_left (by decide)) (by rw [c.pos]; exact hl)).mono ?_
  rintro e w1 ⟨he, h1⟩
  refine ⟨he, Lib.hid ⟨_, c.ln (k := 1) (bb := 0) h1.out.1 h1.out.2 (Sm.fwd L 1).ln ?_ (.inl rfl)⟩⟩
  rw [drop_at hl]
  generalize G.T.getD x 0 = d at hc
  simp [dm.breaks, hc]
theorem Ch.take (hG : Base G) {k : Nat} {R : Nat} {w1 w2 : World} (c : Ch b G L0 w0 H x s y n w) (h : set.Mk w (set.inN k) R w1) (c2 : But [] w1 w2) (hk : dm.inS k 10 = false) :
    Calls Tryz.prog 43 #[.pointer (some ⟨G.D, 0, none⟩), .pointer (some ⟨R, 0, none⟩)] w2 fun e w' => ∃ (a : Option Addr) (j cp : Nat), e = .returned (.slice a j cp) ∧
      Hid (j = dm.runN (dm.inS k) (G.T.drop x) ∧ Ch b G L0 w0 ((a, (G.T.drop x).take j) :: H) (x + j) s y 1 w' ∧ j ≤ cp) := by
  obtain ⟨L, c⟩ := c
  have ca := (c.quiet (But.ofBelow h.2.2)).quiet c2
  have hR : R ∉ own G L := not_mine c.dl h.1
  have hS : set.SetAt w2 R (set.inN k) := h.2.1.but c2 (by simp)
  refine (take30 G hG L w2 ca.dl R _ (dm.inS k) (fun x => set.inN_byte k x) hS hR).mono ?_
  rintro e w3 ⟨a, j, cp, rfl, h3⟩
  obtain ⟨e3, L3, t1, t2, t3, t4, t5⟩ := h3.out
  rw [c.pos] at e3 t5
  refine ⟨a, j, cp, rfl, Lib.hid ⟨e3, ⟨L3, ChL.hold ?_ t5.1⟩, t5.2⟩⟩
  exact ca.ln t1 t2 t3.ln (by rw [e3]; exact run_brk _ hk _) (.inr t4)
theorem Ch.eol (hG : Base G) (c : Ch b G L0 w0 H x s y n w) :
    Calls Tryz.prog 47 #[.pointer (some ⟨G.D, 0, none⟩)] w fun e w' => e = .returned (.bool (dm.eol (G.T.drop x)).isSome) ∧ Hid (Ch b G L0 w0 H (x + eolN (G.T.drop x)) s y 0 w') := by
  obtain ⟨L, c⟩ := c
  refine (eol58 G hG L w c.dl (by have := c.lines hG; omega)).mono ?_
  rintro e w1 ⟨he, h1⟩
  obtain ⟨L1, d1, d2, d3, d4⟩ := h1.out
  rw [c.pos] at he d3
  exact ⟨he, Lib.hid ⟨L1, c.ln d1 d2 d3 rfl (.inl rfl)⟩⟩
theorem Ch.skip (hG : Base G) (c : Ch b G L0 w0 H x s y n w) :
    Calls Tryz.prog 26 #[.pointer (some ⟨G.D, 0, none⟩)] w fun e w' => e = .returned (.tuple #[]) ∧ Hid (Ch b G L0 w0 H (x + dm.passed (G.T.length + 1) (G.T.drop x)) s y 0 w') := by
  obtain ⟨L, c⟩ := c
  refine (skip31 G hG L w c.dl (by have := c.lines hG; omega)).mono ?_
  rintro e w1 ⟨he, h1⟩
  obtain ⟨L1, k, e1, e2, d1, d2, d3, d4⟩ := h1.out
  rw [c.pos] at e1 e2 d3
  rw [← e1]
  exact ⟨he, Lib.hid ⟨L1, c.ln d1 d2 d3 rfl (.inl rfl)⟩⟩
/-- The LFs of a token of a set without LF. -/
theorem tok_brk {P : UInt8 → Bool} {r : UInt8 → UInt8} (hP : P 10 = false) (hr : r 10 = 0) : ∀ (f : Nat) (l : List UInt8), l.length ≤ f → dm.breaks (l.take (dm.tokL P r l).2) = 0
  | 0, l, h => by
    obtain rfl : l = [] := List.eq_nil_of_length_eq_zero (by omega)
    rfl
  | f + 1, [], h => rfl
  | f + 1, [c], h => by
    unfold dm.tokL
    split
    · rename_i hc
      have : c ≠ 10 := by
        rintro rfl
        rcases hc with e | e
        · exact absurd e (by decide)
        · rw [hP] at e; cases e
      simp [dm.breaks, this]
    · rfl
  | f + 1, c :: d :: t, h => by
    simp only [List.length_cons] at h
    have h1 := tok_brk hP hr f (d :: t) (by simp; omega)
    have h2 := tok_brk hP hr f t (by omega)
    have hbc : ∀ (x : UInt8) (l : List UInt8), dm.breaks (x :: l) = dm.breaks l + if x = 10 then 1 else 0 := fun x l => by simp [dm.breaks, List.countP_cons]
    unfold dm.tokL
    by_cases h92 : c = 92
    · rw [if_pos h92]
      have hc10 : c ≠ 10 := by rw [h92]; decide
      by_cases hd : r d = 0
      · rw [if_pos hd]
        show dm.breaks ((c :: d :: t).take ((dm.tokL P r (d :: t)).2 + 1)) = 0
        rw [List.take_succ_cons, hbc, h1, if_neg hc10]
      · rw [if_neg hd]
        show dm.breaks ((c :: d :: t).take ((dm.tokL P r t).2 + 2)) = 0
        have hd10 : d ≠ 10 := fun e => hd (by rw [e]; exact hr)
        rw [List.take_succ_cons, List.take_succ_cons, hbc, hbc, h2, if_neg hc10, if_neg hd10]
    · rw [if_neg h92]
      by_cases hp : P c = true
      · rw [if_pos hp]
        show dm.breaks ((c :: d :: t).take ((dm.tokL P r (d :: t)).2 + 1)) = 0
        have hc10 : c ≠ 10 := fun e => by rw [e, hP] at hp; cases hp
        rw [List.take_succ_cons, hbc, h1, if_neg hc10]
      · rw [if_neg hp]; rfl
theorem brk_eq (k : Nat) (hk : k ≤ 4) (hp : L.pos = x) : brk G L (dm.inS (dm.setOf k)) (dm.tok k (G.T.drop x)).2 = dm.breaks ((G.T.drop x).take (dm.tok k (G.T.drop x)).2) := by
  unfold brk
  by_cases h : dm.inS (dm.setOf k) 10 = true
  · rw [if_pos h, hp]
    unfold sub
    rw [show x + (dm.tok k (G.T.drop x)).2 - x = (dm.tok k (G.T.drop x)).2 by omega]
  · rw [if_neg h]
    have h' : dm.inS (dm.setOf k) 10 = false := by simpa using h
    have hr : dm.rv k 10 = 0 := by
      obtain rfl | rfl | rfl | rfl | rfl : k = 0 ∨ k = 1 ∨ k = 2 ∨ k = 3 ∨ k = 4 := by omega
      all_goals decide
    exact (tok_brk h' hr _ (G.T.drop x) (Nat.le_refl _)).symm
theorem sub_place (T : List UInt8) (a b : Nat) : sub T a b = (T.take b).drop a := by
  unfold sub
  rw [List.drop_take]
/-- A fault as a plain place tells it. -/
theorem place_line (T : List UInt8) (f p a : Nat) (hp : p ≤ a) : ((1 + dm.breaks (T.take a) : Nat) : Int) - (dm.breaks (sub T p a) : Int) = ((dm.place T f p).1 : Int) := by
  have := take_brk T p (a - p)
  rw [show p + (a - p) = a by omega] at this
  unfold dm.place sub
  simp only []
  omega
theorem place_col (T : List UInt8) (f p : Nat) : ((dm.colF (sub T f p) : Int) + 1) = ((dm.place T f p).2 : Int) := by
  unfold dm.place
  rw [sub_place]
  simp
/-- What a fault leaves. -/
def Flt (b : Bool) (G : Cfg) (L0 : Lay) (w0 : World) (p x s y : Nat) (w' : World) (v : Value) : Prop := ∃ L', ChL b G L0 w0 [] x (if s = 5 then 5 else 4) y 0 w' L' ∧ ErrAt G L' w' v (dm.place G.T y p).1 (dm.place G.T y p).2
theorem Ch.syn (hG : Base G) (c : Ch b G L0 w0 H x s y 1 w) (p : Nat) (hp1 : y ≤ p) (hp2 : p ≤ x) {w1 : World} (hb : But [] w w1) (Y : Nat) (ms : ByteArray) (hY : w.heap.size ≤ Y) (hr : Rw w1 Y [.string ms] 121) (z : Int) (hz : z = ((p - y : Nat) : Int)) :
    Calls Tryz.prog 54 #[.pointer (some ⟨G.D, 0, none⟩), .int .i64 z, .iface 119 (.pointer (some ⟨Y, 0, none⟩))] w1 fun e w' => ∃ v, e = .returned v ∧ Hid (Flt b G L0 w0 p x s y w' v) ∧ w'.cell? ⟨G.D, 2, none⟩ = w1.cell? ⟨G.D, 2, none⟩ ∧ w'.cell? ⟨G.D, 3, none⟩ = w1.cell? ⟨G.D, 3, none⟩ := by
  subst hz
  obtain ⟨L, c⟩ := c
  have ho := fresh_own c.dl hY
  have hY := Nat.le_trans c.dl.bel.size hY
  have c := c.quiet hb
  have e1 := c.pos
  have e2 := c.frm
  have e1' := c.pos
  have e2' := c.frm
  unfold Lay.pos at e1
  unfold Lay.frm at e2
  refine (syn36 G hG L w1 c.dl (c.av.resolve_left (by decide)).1 (p - y) (by omega) Y ms hY hr ho).mono ?_
  rintro e w2 ⟨v, he, h1⟩
  obtain ⟨d1, d2, d3⟩ := h1.out
  refine ⟨v, he, Lib.hid ⟨_, ⟨d1, c.step.trans d2.toStep, c.pos, ?_, c.frm, c.line, c.sk, c.esc, .inl rfl, fun p hp => by simp at hp⟩, ?_⟩, d1.cells.2.2.1.trans c.dl.cells.2.2.1.symm, d1.cells.2.2.2.1.trans c.dl.cells.2.2.2.1.symm⟩
  · show (if L.sec = 5 then 5 else 4) = (if s = 5 then 5 else 4)
    rw [c.sec]
  · rw [e2', e1', show y + (p - y) = p by omega, c.line, place_line G.T y p x hp2, place_col] at d3
    exact d3
/-- takeEsc. -/
theorem Ch.esc (hG : Base G) (k : Nat) (hk : k ≤ 4) {R E : Nat} {w1 w2 : World} (c : Ch false G L0 w0 H x s y n w) (h : set.Mk w (set.inN (dm.setOf k)) R w1) (he : esc.EscAt w2 E (k : Int)) (hE : w1.heap.size ≤ E) (hb : But [] w1 w2) :
    Calls Tryz.prog 51 #[.pointer (some ⟨G.D, 0, none⟩), .pointer (some ⟨R, 0, none⟩), .pointer (some ⟨E, 256, none⟩)] w2 fun e w' =>
      ∃ (a : Option Addr) (j cp : Nat) (v : Value), e = .returned (.tuple #[.slice a j cp, .int .i64 ((x - y : Nat) : Int), v]) ∧
        Hid (j = (dm.tok k (G.T.drop x)).1.length ∧ ((utf.V (dm.tok k (G.T.drop x)).1 = true ∧ v = .nilIface ∧ Ch false G L0 w0 ((a, (dm.tok k (G.T.drop x)).1) :: H) (x + (dm.tok k (G.T.drop x)).2) s y 1 w') ∨
          (utf.V (dm.tok k (G.T.drop x)).1 = false ∧ Flt false G L0 w0 x (x + (dm.tok k (G.T.drop x)).2) s y w' v))) := by
  obtain ⟨L, c⟩ := c
  have c1 := c.quiet (But.ofBelow (S := []) h.2.2)
  have c2 := c1.quiet hb
  have hT : Tab G L w2 E (dm.rv k) := ⟨esc_tab hk he, not_mine c1.dl hE⟩
  have hS1 : SetB G L w1 R (dm.inS (dm.setOf k)) := ⟨⟨_, h.2.1, fun x => set.inN_byte _ x⟩, not_mine c.dl h.1⟩
  have hS : SetB G L w2 R (dm.inS (dm.setOf k)) := hS1.step (c1.dl.quiet hb).2.toStep
  have e1' := c.pos
  have e2' := c.frm
  have hlen := c.le
  have htl := hG.tlen
  have hes := c.esc
  refine (esc27 G hG L w2 c2.dl R E _ _ hS hT (by omega) (by have := c.lines hG; omega)).mono ?_
  rintro e w3 ⟨a, j, cp, v, rfl, h3⟩
  obtain ⟨L', o, q, hX⟩ := h3.out
  have hst : L.r1 - L.r0 = x - y := by unfold Lay.pos at e1'; unfold Lay.frm at e2'; omega
  rw [hst]
  have htok : dm.tok k (G.T.drop x) = (o, q) := by have := hX.tok; rw [e1'] at this; exact this
  have hbrk := brk_eq (G := G) (L := L) (x := x) k hk e1'
  rw [htok] at hbrk ⊢
  simp only [] at hbrk ⊢
  have hcont : cont G L o q = o := by unfold cont; rw [c.sk]; rfl
  have hlen := hX.len
  have hheld := hX.held
  have herr := hX.err
  rw [hcont] at hlen hheld herr
  have hr1 := hX.r1
  have hr0 := hX.r0
  have hba := hX.base
  have hpos : L'.pos = x + q := by rw [← e1']; unfold Lay.pos; omega
  have hfrm : L'.frm = y := by rw [← e2']; unfold Lay.frm; omega
  have hline : L'.line = 1 + dm.breaks (G.T.take (x + q)) := by
    have h0 := hX.line
    have h1 := c.line
    rw [hbrk] at h0
    rw [take_brk]
    omega
  have hesc : L'.esc.length ≤ x + q := by have := hX.esc; have := c.esc; omega
  refine ⟨a, j, cp, v, rfl, Lib.hid ⟨hlen.symm, ?_⟩⟩
  rcases herr with ⟨u1, u2, u3⟩ | ⟨u1, u2, u3⟩
  · refine .inl ⟨u1, u2, L', ChL.hold ⟨hX.dl, c2.step.trans hX.go.toStep, hpos, by rw [u3]; exact c.sec, hfrm, hline, by rw [hX.sk]; exact c.sk, hesc, .inr hX.av, fun p hp => (c2.held p hp).go c2.dl hX.go⟩ hheld⟩
  · refine .inr ⟨u1, L', ⟨hX.dl, c2.step.trans hX.go.toStep, hpos, ?_, hfrm, hline, by rw [hX.sk]; exact c.sk, hesc, .inl rfl, fun p hp => by simp at hp⟩, ?_⟩
    · rw [u2]
      show (if L.sec = 5 then 5 else 4) = (if s = 5 then 5 else 4)
      rw [c.sec]
    · rw [hline, e1', e2', place_line G.T y x (x + q) (by omega), place_col] at u3
      exact u3
theorem Ch.reset (hG : Base G) (c : Ch b G L0 w0 H x s y n w) :
    Calls Tryz.prog 50 #[.pointer (some ⟨G.D, 0, none⟩)] w fun e w' => e = .returned (.tuple #[]) ∧ Hid (Ch b G L0 w0 [] x s x 0 w') := by
  obtain ⟨L, c⟩ := c
  refine (reset50 G hG L w c.dl).mono ?_
  rintro e w1 ⟨he, h1⟩
  obtain ⟨L1, d1, d2, d3⟩ := h1.out
  exact ⟨he, Lib.hid ⟨L1, d1, c.step.trans d2, by rw [d3.pos, c.pos], by rw [d3.sec, c.sec], by rw [d3.frm, c.pos], by rw [d3.line, c.line], by rw [d3.sk, c.sk], by rw [d3.esc]; exact Nat.zero_le _, .inl rfl, fun p hp => by simp at hp⟩⟩
/-- The line's end that consumeLine counts. -/
theorem Ch.down (hG : Base G) (c : Ch b G L0 w0 H x s y 1 w) (hl : x < G.T.length) (hc : G.T.getD x 0 = 10) :
    Calls Tryz.prog 48 #[.pointer (some ⟨G.D, 0, none⟩), .int .i64 1] w fun e w' => e = .returned (.tuple #[]) ∧ ∃ ln : Nat, w'.cell? ⟨G.D, 8, none⟩ = some (.int .i64 ln) ∧ w'.frozen? ⟨G.D, 8, none⟩ = false ∧ IntKind.i64.wrap ((ln : Int) + 1) = ((ln + 1 : Nat) : Int) ∧
      Hid (Ch b G L0 w0 H (x + 1) s y 0 (w'.setCell ⟨G.D, 8, none⟩ (.int .i64 ((ln + 1 : Nat) : Int)))) := by
  obtain ⟨L, c⟩ := c
  have ha := c.av.resolve_left (by decide)
  have hln := c.lines hG
  refine (adv1 G hG L w c.dl ha (by rw [c.pos]; exact hl)).mono ?_
  rintro e w1 ⟨he, h1⟩
  obtain ⟨d1, d2⟩ := h1.out
  have hd := d1.down hG ha.1 (by show L.line < _; omega)
  refine ⟨he, L.line, d1.cells.2.2.2.2.2.2.2.2.1, Rw.fz d1.row 8, by rw [IntKind.wrap_i64]; omega, Lib.hid ⟨(L.fwd 1).down, ?_⟩⟩
  have e1 : (((L.line + 1 : Nat) : Int)) = (L.line : Int) + 1 := by omega
  rw [e1]
  refine c.ln (k := 1) (bb := 1) hd.1 (d2.trans c.dl hd.2) (by simpa using (Sm.fwd L 1).ln.trans (Ln.down _)) ?_ (.inl rfl)
  rw [drop_at hl, hc]
  rfl
end
end Go.Proofs.YtlcbcgillekphaaGreatDoor.dec
namespace Go.Proofs.YtlcbcgillekphaaGreatDoor.dec
open Go.RowKit Mem rw
set_option linter.unusedVariables false
set_option linter.unusedSimpArgs false

theorem stop_runN (P : UInt8 → Bool) (T : List UInt8) (x j : Nat) (hj : j = dm.runN P (T.drop x)) (hlt : x + j < T.length) : P (T.getD (x + j) 0) = false := by
  have h : (T.drop x).getD j 0 = T.getD (x + j) 0 := by simp [List.getD_eq_getElem?_getD, List.getElem?_drop]
  rw [← h, hj]
  have hl : dm.runN P (T.drop x) < (T.drop x).length := by rw [← hj, List.length_drop]; omega
  generalize T.drop x = l at hl
  clear h hj hlt
  induction l with
  | nil => simp at hl
  | cons c t ih =>
    unfold dm.runN at hl ih ⊢
    by_cases hc : P c = true
    · rw [List.takeWhile_cons_of_pos hc] at hl ⊢
      simp only [List.length_cons, List.getD_cons_succ] at hl ⊢
      exact ih (by omega)
    · rw [List.takeWhile_cons_of_neg hc]
      simpa using hc
section
variable {b : Bool} {G : Cfg} {L0 : Lay} {w0 : World} {H : List (Option Addr × List UInt8)} {x s y n : Nat} {w : World}
/-- Where the next line begins. -/
def lineOff (T : List UInt8) (x : Nat) : Nat := min (x + dm.runN (dm.inS 13) (T.drop x) + 1) T.length
theorem Ch.cline (hG : Base G) (c : Ch b G L0 w0 H x s y n w) :
    Calls Tryz.prog 75 #[.pointer (some ⟨G.D, 0, none⟩)] w fun e w' => e = .returned (.tuple #[]) ∧ Hid (Ch b G L0 w0 [] (lineOff G.T x) 5 (lineOff G.T x) 0 w') := by
  have HG := Lib.hid hG
  have C0 := Lib.hid c
  clear hG c
  go_enter Tryz.func75, Tryz.ntmps75
  go_wp2_with fail
  refine (set.mk_notNewline _).mono ?_
  rintro e w1 ⟨R, rfl, hR⟩
  have HT := Lib.hid (C0.out.take HG.out hR (But.refl [] _) (by decide))
  clear hR
  go_wp2_with fail
  refine HT.out.mono ?_
  rintro e w2 ⟨a, j, cp, rfl, h2⟩
  clear HT
  have C2 := Lib.hid h2.out.2.1
  have HA := Lib.hid (C2.out.at0 HG.out)
  obtain ⟨d, hd⟩ : ∃ d, G.T.getD (x + j) 0 = d := ⟨_, rfl⟩
  rw [hd] at HA
  have hdb := d.toNat_lt
  have hle := C2.out.le
  by_cases hlt : x + j < G.T.length
  · have h10 : d = 10 := by
      have := stop_runN (dm.inS 13) G.T x j h2.out.1 hlt
      rw [hd] at this
      simp [dm.inS] at this
      exact UInt8.toNat_inj.1 this
    have hoff : lineOff G.T x = x + j + 1 := by unfold lineOff; rw [← h2.out.1]; omega
    have HOFF := Lib.hid hoff
    have h10z : (d.toNat : Int) = 10 := by rw [h10]; rfl
    have HL := Lib.hid (And.intro hlt (And.intro hd h10))
    clear h2 hd h10 hoff hlt
    go_wp2_with fail
    refine HA.out.mono ?_
    rintro e w3 ⟨rfl, q, rfl⟩
    clear HA
    have HD := Lib.hid ((C2.out.drewN q).down HG.out HL.out.1 (by rw [HL.out.2.1, HL.out.2.2]))
    go_wp2_with fail
    refine HD.out.mono ?_
    rintro e w4 ⟨rfl, ln, c8, z8, hw, h4⟩
    have hs8 : w4.setCell ⟨G.D, 8, none⟩ (.int .i64 (((ln + 1 : Nat) : Int))) = w4.setCell ⟨G.D, 8, none⟩ (.int .i64 (((ln + 1 : Nat) : Int))) := rfl
    have HR := Lib.hid (h4.out.reset HG.out)
    clear h4 HD hs8
    go_wp2_with fail
    refine HR.out.mono ?_
    rintro e w5 ⟨rfl, h5⟩
    obtain ⟨r0, r1, k2, k3, k4, k5, k6, kz⟩ := h5.out.cells HG.out
    have k5z := kz 5
    have HF := Lib.hid (h5.out.sec HG.out 5 (.int .u8 5) rfl)
    clear h5 HR k2 k3 k4 k6 kz c8 z8 hw
    go_wp2_with fail
    go_end0
    rw [HOFF.out]
    exact ⟨rfl, HF⟩
  · have h0 : d = 0 := by
      rw [← hd, List.getD_eq_getElem?_getD, List.getElem?_eq_none (by omega)]; rfl
    have hoff : lineOff G.T x = x + j := by unfold lineOff; rw [← h2.out.1]; omega
    have HOFF := Lib.hid hoff
    have h10z : ¬ (d.toNat : Int) = 10 := by rw [h0]; decide
    clear h2 hd h0 hoff hlt
    go_wp2_with fail
    refine HA.out.mono ?_
    rintro e w3 ⟨rfl, q, rfl⟩
    clear HA
    have HR := Lib.hid ((C2.out.drewN q).reset HG.out)
    go_wp2_with fail
    refine HR.out.mono ?_
    rintro e w5 ⟨rfl, h5⟩
    obtain ⟨r0, r1, k2, k3, k4, k5, k6, kz⟩ := h5.out.cells HG.out
    have k5z := kz 5
    have HF := Lib.hid (h5.out.sec HG.out 5 (.int .u8 5) rfl)
    clear h5 HR k2 k3 k4 k6 kz
    go_wp2_with fail
    go_end0
    rw [HOFF.out]
    exact ⟨rfl, HF⟩
/-- advanceToSection where the part is the one that is due. -/
theorem Ch.adv_eq (hG : Base G) (c : Ch b G L0 w0 H x s y n w) :
    Calls Tryz.prog 25 #[.pointer (some ⟨G.D, 0, none⟩), .int .u8 s] w fun e w' => e = .returned (.tuple #[.bool true, .nilIface]) ∧ w = w' := by
  obtain ⟨r0, r1, k2, k3, k4, k5, k6, kz⟩ := c.cells hG
  clear c hG k2 k3 k4 k6 kz
  go_enter Tryz.func25, Tryz.ntmps25
  go_wp2_with fail
  go_ret2
  exact ⟨rfl, rfl⟩
theorem Ch.adv_gt (hG : Base G) (c : Ch b G L0 w0 H x s y n w) (t : Nat) (ht : t < s) :
    Calls Tryz.prog 25 #[.pointer (some ⟨G.D, 0, none⟩), .int .u8 t] w fun e w' => e = .returned (.tuple #[.bool false, .nilIface]) ∧ w = w' := by
  obtain ⟨r0, r1, k2, k3, k4, k5, k6, kz⟩ := c.cells hG
  have h1 : ¬ (s : Int) = (t : Int) := by omega
  have h2 : (t : Int) < (s : Int) := by omega
  clear c hG k2 k3 k4 k6 kz ht
  go_enter Tryz.func25, Tryz.ntmps25
  go_wp2_with fail
  go_ret2
  exact ⟨rfl, rfl⟩
/-- A store of whether to skip. -/
theorem Ch.skp (hG : Base G) (c : Ch b G L0 w0 H x s y n w) (d : Bool) : Ch d G L0 w0 H x s y n (w.setCell ⟨G.D, 6, none⟩ (.bool d)) := by
  obtain ⟨L, c⟩ := c
  have hp := c.dl.put (L' := { L with sk := d }) 6 (.bool d) rfl ⟨rfl, rfl, rfl, rfl, rfl, rfl, rfl, rfl, rfl, rfl⟩ (fun e => (c.dl.nbz e).2.1) c.dl.r01 c.dl.r1l c.dl.line hG
  exact ⟨_, hp.1, c.step.trans hp.2.toStep, c.pos, c.sec, c.frm, c.line, rfl, c.esc, c.av, fun q hq => (c.held q hq).go c.dl hp.2⟩
theorem Ch.csec (hG : Base G) (c : Ch b G L0 w0 H x 4 y n w) :
    Calls Tryz.prog 42 #[.pointer (some ⟨G.D, 0, none⟩)] w fun e w' => e = .returned .nilIface ∧ Hid (Ch b G L0 w0 [] (lineOff G.T x) 5 (lineOff G.T x) 0 w') := by
  obtain ⟨r0, r1, k2, k3, k4, k5, k6, kz⟩ := c.cells hG
  have HC := Lib.hid (c.cline hG)
  clear c hG k2 k3 k4 k6 kz
  go_enter Tryz.func42, Tryz.ntmps42
  go_wp2_with fail
  refine HC.out.mono ?_
  rintro e w1 ⟨rfl, h1⟩
  go_wp2_with fail
  go_ret
  exact ⟨rfl, h1⟩
set_option maxHeartbeats 1000000 in
theorem Ch.adv_45 (hG : Base G) (c : Ch false G L0 w0 H x 4 y n w) :
    Calls Tryz.prog 25 #[.pointer (some ⟨G.D, 0, none⟩), .int .u8 5] w fun e w' => e = .returned (.tuple #[.bool true, .nilIface]) ∧ Hid (Ch false G L0 w0 [] (lineOff G.T x) 5 (lineOff G.T x) 0 w') := by
  have HG := Lib.hid hG
  obtain ⟨r0, r1, k2, k3, k4, k5, k6, kz⟩ := c.cells hG
  have z6 := kz 6
  have C1 := Lib.hid (c.skp hG true)
  obtain ⟨W1, hW1⟩ : ∃ W1, w.setCell ⟨G.D, 6, none⟩ (.bool true) = W1 := ⟨_, rfl⟩
  have e5 : W1.cell? ⟨G.D, 5, none⟩ = some (.int .u8 4) := by
    obtain ⟨r0', r1', q2, q3, q4, q5, q6, qz⟩ := C1.out.cells hG
    rw [← hW1]; exact q5
  rw [hW1] at C1
  clear c hG k2 k3 k4 kz
  go_enter Tryz.func25, Tryz.ntmps25
  go_wp2_with fail
  have hW1' := hW1
  clear hW1'
  go_loopg [6] 1 (fun g s6 wr => (g = 1 ∧ W1 = wr) ∨ (g = 0 ∧ Hid (Ch true G L0 w0 [] (lineOff G.T x) 5 (lineOff G.T x) 0 wr)))
  case atStart => exact .inl ⟨rfl, by first | rfl | exact hW1.symm⟩
  case round =>
    rcases hrel with ⟨rfl, rfl⟩ | ⟨rfl, hC⟩
    · have HC := Lib.hid (C1.out.csec HG.out)
      clear hW1 k5 k6 z6
      go_wp2_with fail
      refine HC.out.mono ?_
      rintro e w2 ⟨rfl, h2⟩
      go_wp2_with fail
      go_roundg 0
      case measure => omega
      case rel => exact .inr ⟨rfl, h2⟩
    · clear e5 k5 k6 z6 hW1
      obtain ⟨r0', r1', q2, q3, q4, q5, q6, qz⟩ := hC.out.cells HG.out
      have z6 := qz 6
      have HF := Lib.hid (hC.out.skp HG.out false)
      obtain ⟨r0'', r1'', p2, p3, p4, p5, p6, pz⟩ := HF.out.cells HG.out
      clear q2 q3 q4 qz p2 p3 p4 pz p6 hC
      go_wp2_with fail
      go_ret2
      exact ⟨rfl, HF⟩
end
end Go.Proofs.YtlcbcgillekphaaGreatDoor.dec
