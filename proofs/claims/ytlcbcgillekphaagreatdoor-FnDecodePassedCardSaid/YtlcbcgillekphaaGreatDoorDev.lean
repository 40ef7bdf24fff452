/-
  Proved: the contract of the decoder's syntaxErrorf.
  Conditions: a decoder in memory.
-/
import Derived.Test.YtlcbcgillekphaaGreatDoorGi
namespace Go.Proofs.YtlcbcgillekphaaGreatDoor.dec
open Go.RowKit Mem rw
set_option linter.unusedVariables false

/-- The bytes of the text from a up to b. -/
def sub (T : List UInt8) (a b : Nat) : List UInt8 := (T.drop a).take (b - a)
theorem sub_len {T : List UInt8} {a b : Nat} (hb : b ≤ T.length) : (sub T a b).length = b - a := by
  unfold sub; rw [List.length_take, List.length_drop]; omega
theorem DL.bs {G : Cfg} {L : Lay} {w : World} (h : DL G L w) (hn : L.nb = false) (x a b : Nat) (hab : a ≤ b) (hb : b ≤ L.len) (hx : a ≠ b → x = a) :
    Bs w (some ⟨L.B, x, none⟩) (sub G.T (L.base + a) (L.base + b)) := by
  refine .inr ⟨_, _, rfl, fun j y hy => ?_⟩
  have hbl := h.blen
  have hj : j < b - a := by
    have := (List.getElem?_eq_some_iff.1 hy).1
    rw [sub_len (by omega)] at this
    omega
  unfold sub at hy
  rw [List.getElem?_take, if_pos (by omega), List.getElem?_drop] at hy
  have := h.byte hn (j := a + j) (by omega)
  rw [hx (by omega), this, show L.base + (a + j) = L.base + a + j by omega, List.getD_eq_getElem?_getD, hy]
  rfl
/-- A fault lies in memory: its line and its column. -/
def ErrAt (G : Cfg) (L : Lay) (w : World) (v : Value) (line col : Int) : Prop :=
  ∃ X Y ms, v = .iface 106 (.pointer (some ⟨X, 0, none⟩)) ∧ Rw w X [.int .i64 line, .int .i64 col, .iface 119 (.pointer (some ⟨Y, 0, none⟩))] 109 ∧ X ∉ own G L ∧ G.w0.heap.size ≤ X ∧ G.w0.heap.size ≤ Y ∧ Rw w Y [.string ms] 121 ∧ Y ∉ own G L
theorem ErrAt.go {G : Cfg} {L L' : Lay} {w w' : World} {v : Value} {l c : Int} (h : ErrAt G L w v l c) (s : Step G L w L' w') : ErrAt G L' w' v l c := by
  obtain ⟨X, Y, ms, rfl, h1, h2, h3, h4, h5, h6⟩ := h
  obtain ⟨k1, k2⟩ := s.keep h1 h2
  obtain ⟨j1, j2⟩ := s.keep h5 h6
  exact ⟨X, Y, ms, rfl, k1, k2, h3, h4, j1, j2⟩
/-- A block that is new is none of the decoder's. -/
theorem fresh_own {G : Cfg} {L : Lay} {w : World} {X : Nat} (h : DL G L w) (hX : w.heap.size ≤ X) : X ∉ own G L := fun hx => by
  rw [mem_own] at hx
  have h1 := Rw.lt h.row
  have h2 := h.esc.lt
  have h3 := h.rlt
  rcases hx with e | e | e | ⟨hn, e⟩
  · omega
  · omega
  · omega
  · have := (h.buf hn).1.lt; omega
def Lay.bad (L : Lay) : Lay := { L with sec := if L.sec = 5 then 5 else 4 }
theorem DL.quiet {G : Cfg} {L : Lay} {w w' : World} (h : DL G L w) (hb : But [] w w') : DL G L w' ∧ Go G L w L w' := by
  refine ⟨⟨Rw.but h.row hb (by simp), fun hn => ⟨(h.buf hn).1.but hb (by simp), (h.buf hn).2⟩, h.nbz, h.blen, h.r01, h.r1l, h.esc.but hb (by simp), h.escl, h.DE, h.RE, h.lo, h.all, fun hc => ⟨(h.more hc).1, let ⟨a, ha⟩ := (h.more hc).2.1; ⟨a, Rw.but ha.row hb (by simp), ha.few, ha.le⟩, (h.more hc).2.2⟩,
    h.bel.trans ((hb.toBelow).mono h.bel.size), h.line, Nat.lt_of_lt_of_le h.rlt hb.size⟩,
    ⟨⟨hb.mono (by simp), fun h => ⟨h, rfl⟩, fun h h2 => (by rw [h] at h2; cases h2), .inl rfl⟩, fun hn => ⟨Nat.le_refl _, fun j _ => hb.cell (p := ⟨L.B, j, none⟩) (h.buf hn).1.lt (by simp)⟩, fun j _ => hb.cell (p := ⟨L.E, j, none⟩) h.esc.lt (by simp), fun _ => Nat.le_refl _⟩⟩
theorem lastn (a : Option Addr) (c k : Nat) (l : List UInt8) (hk : l.length = k) (hl : k ≤ 5000) (w : World) (h : Bs w a l) :
    Calls Tryz.prog 86 #[.slice a k c, .int .u8 10] w fun e w' => e = .returned (.int .i64 ((k : Int) - (dm.colF l : Int) - 1)) ∧ w = w' := by
  subst hk; exact lastix62 a c l hl w h
theorem countn (a : Option Addr) (c k : Nat) (l : List UInt8) (hk : l.length = k) (hl : k ≤ 5000) (w : World) (h : Bs w a l) :
    Calls Tryz.prog 82 #[.slice a k c, .int .u8 10] w fun e w' => e = .returned (.int .i64 (dm.breaks l)) ∧ w = w' := by
  subst hk; exact count34 a c l hl w h
/-- What syntaxErrorf leaves. -/
def SynOut (G : Cfg) (L : Lay) (w : World) (k : Nat) (e : Ending) (w' : World) : Prop :=
  ∃ v, e = .returned v ∧ Hid (DL G L.bad w' ∧ Go G L w L.bad w' ∧ ErrAt G L.bad w' v ((L.line : Int) - (dm.breaks (sub G.T (L.frm + k) L.pos) : Int)) ((dm.colF (sub G.T L.frm (L.frm + k)) : Int) + 1))
theorem bad_same {L : Lay} (h : L.sec = 5) : L.bad = L := by
  unfold Lay.bad
  rw [if_pos h, ← h]
theorem syn_end {G : Cfg} {L : Lay} {w W : World} (h : DL G L w) (hb : But [] w W) (x y : Int) (Y : Nat) (ms : ByteArray) (hY : G.w0.heap.size ≤ Y) (hr : Rw w Y [.string ms] 121) (ho : Y ∉ own G L) :
    DL G L (W.alloc (.cells #[.int .i64 x, .int .i64 y, .iface 119 (.pointer (some ⟨Y, 0, none⟩))] 109)) ∧ Go G L w L (W.alloc (.cells #[.int .i64 x, .int .i64 y, .iface 119 (.pointer (some ⟨Y, 0, none⟩))] 109)) ∧
      ErrAt G L (W.alloc (.cells #[.int .i64 x, .int .i64 y, .iface 119 (.pointer (some ⟨Y, 0, none⟩))] 109)) (.iface 106 (.pointer (some ⟨W.heap.size, 0, none⟩))) x y := by
  obtain ⟨q1, q2⟩ := h.quiet (hb.alloc (.cells #[.int .i64 x, .int .i64 y, .iface 119 (.pointer (some ⟨Y, 0, none⟩))] 109))
  have hs := hb.size
  refine ⟨q1, q2, _, Y, ms, rfl, Rw.new W [.int .i64 x, .int .i64 y, .iface 119 (.pointer (some ⟨Y, 0, none⟩))] 109, ?_, by have := h.bel.size; omega, hY, Rw.but hr (hb.alloc _) (by simp), ho⟩
  rw [mem_own]
  have h1 := Rw.lt h.row
  have h2 := h.esc.lt
  rintro (e | e | e | ⟨hn, e⟩)
  · omega
  · omega
  · have := h.rlt; omega
  · have := (h.buf hn).1.lt; omega
theorem syn_end4 {G : Cfg} (hG : Base G) {L : Lay} {w W : World} (h : DL G L w) (hn : L.nb = false) (hb : But [] w W) (he : L.sec ≠ 5) (x y : Int) (Y : Nat) (ms : ByteArray) (hY : G.w0.heap.size ≤ Y) (hr : Rw w Y [.string ms] 121) (ho : Y ∉ own G L) :
    DL G L.bad ((W.setCell ⟨G.D, 5, none⟩ (.int .u8 4)).alloc (.cells #[.int .i64 x, .int .i64 y, .iface 119 (.pointer (some ⟨Y, 0, none⟩))] 109)) ∧ Go G L w L.bad ((W.setCell ⟨G.D, 5, none⟩ (.int .u8 4)).alloc (.cells #[.int .i64 x, .int .i64 y, .iface 119 (.pointer (some ⟨Y, 0, none⟩))] 109)) ∧
      ErrAt G L.bad ((W.setCell ⟨G.D, 5, none⟩ (.int .u8 4)).alloc (.cells #[.int .i64 x, .int .i64 y, .iface 119 (.pointer (some ⟨Y, 0, none⟩))] 109)) (.iface 106 (.pointer (some ⟨W.heap.size, 0, none⟩))) x y := by
  obtain ⟨q1, q2⟩ := h.quiet hb
  have hp := q1.put (L' := L.bad) 5 (.int .u8 4) (by
    unfold Lay.bad
    rw [if_neg he]
    rfl) ⟨rfl, rfl, rfl, rfl, rfl, rfl, rfl, rfl, rfl, rfl⟩ (fun e => (by rw [show L.bad.nb = L.nb from rfl, hn] at e; cases e)) h.r01 h.r1l h.line hG
  have hr4 : Rw (W.setCell ⟨G.D, 5, none⟩ (.int .u8 4)) Y [.string ms] 121 := Rw.but (Rw.but hr hb (by simp)) ((But.refl [G.D] W).setCell (Or.inl (by simp)) _) (by simp only [List.mem_singleton]; exact fun e => ho (by rw [mem_own]; exact .inl e))
  have := syn_end hp.1 (But.refl [] _) x y Y ms hY hr4 ho
  rw [show (W.setCell ⟨G.D, 5, none⟩ (.int .u8 4)).heap.size = W.heap.size from set_size _ _ _] at this
  exact ⟨this.1, (q2.trans h hp.2).trans h this.2.1, this.2.2⟩
set_option maxRecDepth 100000 in
set_option maxHeartbeats 1000000 in
theorem syn36 (G : Cfg) (hG : Base G) (L : Lay) (w : World) (h : DL G L w) (hn : L.nb = false) (k : Nat) (hk : L.r0 + k ≤ L.r1) (Y : Nat) (ms : ByteArray) (hY : G.w0.heap.size ≤ Y) (hr : Rw w Y [.string ms] 121) (ho : Y ∉ own G L) :
    Calls Tryz.prog 54 #[.pointer (some ⟨G.D, 0, none⟩), .int .i64 k, .iface 119 (.pointer (some ⟨Y, 0, none⟩))] w (SynOut G L w k) := by
  obtain ⟨c0, c1, c2, c3, c4, c5, c6, c7, c8, c9⟩ := h.cells
  rw [bufv_of hn] at c1
  have HY := Lib.hid hY
  have HRO := Lib.hid (And.intro hr ho)
  clear hY hr ho
  have z5 := Rw.fz h.row 5
  have hl := h.lenle hG
  have h1l := h.r1l
  have hbl := h.blen
  have hcap := (h.buf hn).1.le
  rw [h.blen'] at hcap
  have hline := h.line
  obtain ⟨s1, hs1⟩ : ∃ s1, L.r0 + k = s1 := ⟨_, rfl⟩
  obtain ⟨rm, hrm⟩ : ∃ rm, L.r1 - s1 = rm := ⟨_, rfl⟩
  have hk1 : s1 - L.r0 = k := by omega
  have hw1 : IntKind.i64.wrap ((L.r0 : Int) + (k : Int)) = (s1 : Int) := by rw [IntKind.wrap_i64]; omega
  obtain ⟨l1, hl1⟩ : ∃ l1, sub G.T L.frm (L.frm + k) = l1 := ⟨_, rfl⟩
  obtain ⟨l2, hl2⟩ : ∃ l2, sub G.T (L.frm + k) L.pos = l2 := ⟨_, rfl⟩
  have hlen1 : l1.length = k := by rw [← hl1, sub_len (by unfold Lay.frm; omega)]; omega
  have hlen2 : l2.length = rm := by rw [← hl2, sub_len (by unfold Lay.pos; omega)]; unfold Lay.frm Lay.pos; omega
  have HB1 : Hid (∀ x wx, But [] w wx → (k ≠ 0 → x = L.r0) → Bs wx (some ⟨L.B, x, none⟩) l1) := Lib.hid fun x wx hb hx => by
    have := (h.quiet hb).1.bs hn x L.r0 (L.r0 + k) (by omega) (by omega) (fun e => hx (by omega))
    rw [← hl1]; unfold Lay.frm; rw [Nat.add_assoc]; exact this
  have HB2 : Hid (∀ x wx, But [] w wx → (rm ≠ 0 → x = s1) → Bs wx (some ⟨L.B, x, none⟩) l2) := Lib.hid fun x wx hb hx => by
    have := (h.quiet hb).1.bs hn x s1 L.r1 (by omega) (by omega) (fun e => hx (by omega))
    rw [← hl2]; unfold Lay.frm Lay.pos; rw [show L.base + L.r0 + k = L.base + s1 by omega]; exact this
  have hc1 := dm.colF_le l1
  have hb2 := dm.breaks_le l2
  rw [hlen1] at hc1
  rw [hlen2] at hb2
  have HCL : Hid (∀ x wx c, But [] w wx → (k ≠ 0 → x = L.r0) → Calls Tryz.prog 86 #[.slice (some ⟨L.B, x, none⟩) k c, .int .u8 10] wx fun e w' => e = .returned (.int .i64 ((k : Int) - (dm.colF l1 : Int) - 1)) ∧ wx = w') := Lib.hid fun x wx c hb hx => lastn _ c k l1 hlen1 (by omega) _ (HB1.out x wx hb hx)
  have HCC : Hid (∀ x wx c, But [] w wx → (rm ≠ 0 → x = s1) → Calls Tryz.prog 82 #[.slice (some ⟨L.B, x, none⟩) rm c, .int .u8 10] wx fun e w' => e = .returned (.int .i64 (dm.breaks l2)) ∧ w' = wx) := Lib.hid fun x wx c hb hx => (countn _ c rm l2 hlen2 (by omega) _ (HB2.out x wx hb hx)).mono fun e w' h => ⟨h.1, h.2.symm⟩
  obtain ⟨cf, hcf⟩ : ∃ cf, dm.colF l1 = cf := ⟨_, rfl⟩
  obtain ⟨bk, hbk⟩ : ∃ bk, dm.breaks l2 = bk := ⟨_, rfl⟩
  rw [hcf] at hc1 HCL
  rw [hbk] at hb2 HCC
  have H := Lib.hid (show DL G L w ∧ Base G ∧ L.nb = false ∧ sub G.T L.frm (L.frm + k) = l1 ∧ sub G.T (L.frm + k) L.pos = l2 ∧ dm.colF l1 = cf ∧ dm.breaks l2 = bk from ⟨h, hG, hn, hl1, hl2, hcf, hbk⟩)
  have hs10 : (L.r0 : Int) ≤ (s1 : Int) := by omega
  have hs1c : (s1 : Int) ≤ (L.cap : Int) := by omega
  have hs11 : (s1 : Int) ≤ (L.r1 : Int) := by omega
  have hr1c : (L.r1 : Int) ≤ (L.cap : Int) := by omega
  clear h hG hn hl1 hl2 hcf hbk HB1 HB2 hlen1 hlen2 c0 c4 c6 c7 c9
  obtain ⟨li, hli⟩ : ∃ li, k - cf = li := ⟨_, rfl⟩
  rw [show ((k : Int) - (cf : Int) - 1) = (li : Int) - 1 by omega] at HCL
  have HF5 : Hid (L.sec = 5 → ∀ (q : Nat) (y : Int), y = (cf : Int) + 1 → SynOut G L w k (.returned (.iface 106 (.pointer (some ⟨w.heap.size, 0, none⟩)))) ((w.drewN q).alloc (.cells #[.int .i64 ((L.line : Int) - (bk : Int)), .int .i64 y, .iface 119 (.pointer (some ⟨Y, 0, none⟩))] 109))) := Lib.hid fun e q y hy => by
    obtain ⟨g1, g2, g3, g4, g5, g6, g7⟩ := H.out
    have := syn_end g1 ((But.refl [] w).drewN (n := q)) ((L.line : Int) - (bk : Int)) y Y ms HY.out HRO.out.1 HRO.out.2
    refine ⟨_, rfl, Lib.hid ?_⟩
    rw [bad_same e, g4, g5, g6, g7, ← hy]
    exact this
  have HF4 : Hid (L.sec ≠ 5 → ∀ (q : Nat) (y : Int), y = (cf : Int) + 1 → SynOut G L w k (.returned (.iface 106 (.pointer (some ⟨w.heap.size, 0, none⟩)))) (((w.drewN q).setCell ⟨G.D, 5, none⟩ (.int .u8 4)).alloc (.cells #[.int .i64 ((L.line : Int) - (bk : Int)), .int .i64 y, .iface 119 (.pointer (some ⟨Y, 0, none⟩))] 109))) := Lib.hid fun e q y hy => by
    obtain ⟨g1, g2, g3, g4, g5, g6, g7⟩ := H.out
    have := syn_end4 g2 g1 g3 ((But.refl [] w).drewN (n := q)) e ((L.line : Int) - (bk : Int)) y Y ms HY.out HRO.out.1 HRO.out.2
    refine ⟨_, rfl, Lib.hid ?_⟩
    rw [g4, g5, g6, g7, ← hy]
    exact this
  by_cases q1 : L.cap = L.r0
  · skip
    go_enter Tryz.func54, Tryz.ntmps54
    go_wp2
    go_quiet (fail)
    go_wp2_with fail
    refine (HCL.out _ _ _ ((But.refl [] w).drewN) (fun h => absurd (show k = 0 by omega) h)).mono ?_
    rintro e w2 ⟨rfl, rfl⟩
    cases li with
    | zero =>
      have hcfk := Lib.hid (show k = cf by omega)
      clear hli
      go_wp2
      go_quiet (fail)
      go_wp2_with fail
      go_quiet ((refine (HCC.out _ _ _ ((But.refl [] w).drewN) (fun h => absurd (show rm = 0 by omega) h)).mono ?_; rintro e w2 ⟨rfl, rfl⟩; exact ⟨rfl, _, rfl⟩))
      by_cases q5 : L.sec = 5
      · have hq5 : (L.sec : Int) = 5 := by omega
        have HF := Lib.hid (HF5.out q5)
        clear q5
        go_wp2
        go_ret
        exact HF.out _ _ (by have := hcfk.out; omega)
      · have hq5 : ¬ (L.sec : Int) = 5 := by omega
        have HF := Lib.hid (HF4.out q5)
        clear q5
        go_wp2
        go_ret
        exact HF.out _ _ (by have := hcfk.out; omega)
    | succ li =>
      omega
  · by_cases q2 : L.cap = s1
    · skip
      go_enter Tryz.func54, Tryz.ntmps54
      go_wp2
      go_quiet (fail)
      go_wp2_with fail
      refine (HCL.out _ _ _ ((But.refl [] w).drewN) (fun _ => rfl)).mono ?_
      rintro e w2 ⟨rfl, rfl⟩
      cases li with
      | zero =>
        have hcfk := Lib.hid (show k = cf by omega)
        clear hli
        go_wp2
        go_quiet (fail)
        go_wp2_with fail
        go_quiet ((refine (HCC.out _ _ _ ((But.refl [] w).drewN) (fun h => absurd (show rm = 0 by omega) h)).mono ?_; rintro e w2 ⟨rfl, rfl⟩; exact ⟨rfl, _, rfl⟩))
        by_cases q5 : L.sec = 5
        · have hq5 : (L.sec : Int) = 5 := by omega
          have HF := Lib.hid (HF5.out q5)
          clear q5
          go_wp2
          go_ret
          exact HF.out _ _ (by have := hcfk.out; omega)
        · have hq5 : ¬ (L.sec : Int) = 5 := by omega
          have HF := Lib.hid (HF4.out q5)
          clear q5
          go_wp2
          go_ret
          exact HF.out _ _ (by have := hcfk.out; omega)
      | succ li =>
        have hlk : (li : Int) + 1 ≤ (k : Int) := by omega
        have hkc : (k : Int) ≤ ((L.cap - L.r0 : Nat) : Int) := by omega
        have hkl : k - (li + 1) = cf := by omega
        clear hli
        by_cases hz : L.cap - L.r0 = li + 1
        · skip
          go_wp2
          go_quiet (fail)
          go_wp2_with fail
          go_quiet ((refine (HCC.out _ _ _ ((But.refl [] w).drewN) (fun h => absurd (show rm = 0 by omega) h)).mono ?_; rintro e w2 ⟨rfl, rfl⟩; exact ⟨rfl, _, rfl⟩))
          by_cases q5 : L.sec = 5
          · have hq5 : (L.sec : Int) = 5 := by omega
            have HF := Lib.hid (HF5.out q5)
            clear q5
            go_wp2
            go_ret
            exact HF.out _ _ (rfl)
          · have hq5 : ¬ (L.sec : Int) = 5 := by omega
            have HF := Lib.hid (HF4.out q5)
            clear q5
            go_wp2
            go_ret
            exact HF.out _ _ (rfl)
        · skip
          go_wp2
          go_quiet (fail)
          go_wp2_with fail
          go_quiet ((refine (HCC.out _ _ _ ((But.refl [] w).drewN) (fun h => absurd (show rm = 0 by omega) h)).mono ?_; rintro e w2 ⟨rfl, rfl⟩; exact ⟨rfl, _, rfl⟩))
          by_cases q5 : L.sec = 5
          · have hq5 : (L.sec : Int) = 5 := by omega
            have HF := Lib.hid (HF5.out q5)
            clear q5
            go_wp2
            go_ret
            exact HF.out _ _ (rfl)
          · have hq5 : ¬ (L.sec : Int) = 5 := by omega
            have HF := Lib.hid (HF4.out q5)
            clear q5
            go_wp2
            go_ret
            exact HF.out _ _ (rfl)
    · skip
      go_enter Tryz.func54, Tryz.ntmps54
      go_wp2
      go_quiet (fail)
      go_wp2_with fail
      refine (HCL.out _ _ _ ((But.refl [] w).drewN) (fun _ => rfl)).mono ?_
      rintro e w2 ⟨rfl, rfl⟩
      cases li with
      | zero =>
        have hcfk := Lib.hid (show k = cf by omega)
        clear hli
        go_wp2
        go_quiet (fail)
        go_wp2_with fail
        go_quiet ((refine (HCC.out _ _ _ ((But.refl [] w).drewN) (fun _ => rfl)).mono ?_; rintro e w2 ⟨rfl, rfl⟩; exact ⟨rfl, _, rfl⟩))
        by_cases q5 : L.sec = 5
        · have hq5 : (L.sec : Int) = 5 := by omega
          have HF := Lib.hid (HF5.out q5)
          clear q5
          go_wp2
          go_ret
          exact HF.out _ _ (by have := hcfk.out; omega)
        · have hq5 : ¬ (L.sec : Int) = 5 := by omega
          have HF := Lib.hid (HF4.out q5)
          clear q5
          go_wp2
          go_ret
          exact HF.out _ _ (by have := hcfk.out; omega)
      | succ li =>
        have hlk : (li : Int) + 1 ≤ (k : Int) := by omega
        have hkc : (k : Int) ≤ ((L.cap - L.r0 : Nat) : Int) := by omega
        have hkl : k - (li + 1) = cf := by omega
        clear hli
        by_cases hz : L.cap - L.r0 = li + 1
        · omega
        · skip
          go_wp2
          go_quiet (fail)
          go_wp2_with fail
          go_quiet ((refine (HCC.out _ _ _ ((But.refl [] w).drewN) (fun _ => rfl)).mono ?_; rintro e w2 ⟨rfl, rfl⟩; exact ⟨rfl, _, rfl⟩))
          by_cases q5 : L.sec = 5
          · have hq5 : (L.sec : Int) = 5 := by omega
            have HF := Lib.hid (HF5.out q5)
            clear q5
            go_wp2
            go_ret
            exact HF.out _ _ (rfl)
          · have hq5 : ¬ (L.sec : Int) = 5 := by omega
            have HF := Lib.hid (HF4.out q5)
            clear q5
            go_wp2
            go_ret
            exact HF.out _ _ (rfl)
end Go.Proofs.YtlcbcgillekphaaGreatDoor.dec
