/-
  Proved: plain laws on what a token with escapes leaves in the decoder's escape buffer, and on the worlds between.
  Conditions: each law's own.
-/
import Derived.Test.YtlcbcgillekphaaGreatDoorDew
import Derived.Test.YtlcbcgillekphaaGreatDoorUtb
namespace Go.Proofs.YtlcbcgillekphaaGreatDoor.dec
open Go.RowKit Mem rw
set_option linter.unusedVariables false

/-- What a step leaves of a decoder's lay, but for its escape buffer. -/
structure Se (L L' : Lay) (n : Nat) : Prop where
  base : L'.base = L.base
  r0 : L'.r0 = L.r0
  r1 : L'.r1 = L.r1 + n
  sec : L'.sec = L.sec
  sk : L'.sk = L.sk
  line : L'.line = L.line
theorem Se.refl (L : Lay) : Se L L 0 := ⟨rfl, rfl, rfl, rfl, rfl, rfl⟩
theorem Se.trans {L L1 L2 : Lay} {n m : Nat} (a : Se L L1 n) (b : Se L1 L2 m) : Se L L2 (n + m) :=
  ⟨b.base.trans a.base, b.r0.trans a.r0, by rw [b.r1, a.r1]; omega, b.sec.trans a.sec, b.sk.trans a.sk, b.line.trans a.line⟩
theorem Sm.se {L L' : Lay} {n : Nat} (h : Sm L L' n) : Se L L' n := ⟨h.base, h.r0, h.r1, h.sec, h.sk, h.line⟩
theorem Se.pos {L L' : Lay} {n : Nat} (h : Se L L' n) : L'.pos = L.pos + n := by unfold Lay.pos; rw [h.base, h.r1]; omega
theorem Se.frm {L L' : Lay} {n : Nat} (h : Se L L' n) : L'.frm = L.frm := by unfold Lay.frm; rw [h.base, h.r0]
theorem Se.more (L : Lay) (y : List UInt8) (g c : Nat) : Se L (L.more y g c) 0 := ⟨rfl, rfl, rfl, rfl, rfl, rfl⟩
theorem sub_snoc {T : List UInt8} {u p : Nat} (hu : u ≤ p) (hp : p < T.length) : sub T u (p + 1) = sub T u p ++ [T[p]] := by
  unfold sub
  have hl : p - u < (T.drop u).length := by rw [List.length_drop]; omega
  rw [show p + 1 - u = (p - u) + 1 by omega, List.take_succ_eq_append_getElem hl, List.getElem_drop]
  congr 3
  omega
theorem sub_self (T : List UInt8) (u : Nat) : sub T u u = [] := by unfold sub; simp
/-- What stands in the escape buffer behind a token's beginning: u is where the bytes begin that are not there yet, p where the decoder stands, o what the token says up to there. -/
structure EI (G : Cfg) (L L2 : Lay) (u p : Nat) (o : List UInt8) : Prop where
  lo : L.pos ≤ u
  hi : u ≤ p
  sk : L.sk = true → L2.esc = L.esc ∧ u = L.pos
  un : L.sk = false → ∃ E1, L2.esc = L.esc ++ E1 ∧ o = E1 ++ sub G.T u p ∧ (E1 = [] → u = L.pos) ∧ E1.length + L.pos ≤ u
theorem EI.start (G : Cfg) (L : Lay) : EI G L L L.pos L.pos [] := ⟨Nat.le_refl _, Nat.le_refl _, fun _ => ⟨rfl, rfl⟩, fun _ => ⟨[], by simp, by simp [sub_self], fun _ => rfl, by simp⟩⟩
theorem EI.same {G : Cfg} {L L2 L3 : Lay} {u p : Nat} {o : List UInt8} (h : EI G L L2 u p o) (e : L3.esc = L2.esc) : EI G L L3 u p o := ⟨h.lo, h.hi, by rw [e]; exact h.sk, by rw [e]; exact h.un⟩
theorem EI.one {G : Cfg} {L L2 : Lay} {u p : Nat} {o : List UInt8} (h : EI G L L2 u p o) (hp : p < G.T.length) : EI G L L2 u (p + 1) (o ++ [G.T[p]]) :=
  ⟨h.lo, by have := h.hi; omega, h.sk, fun e => by
    obtain ⟨E1, h1, h2, h3, h4⟩ := h.un e
    exact ⟨E1, h1, by rw [h2, sub_snoc h.hi hp]; simp, h3, h4⟩⟩
theorem EI.two {G : Cfg} {L L2 : Lay} {u p : Nat} {o : List UInt8} (h : EI G L L2 u p o) (e : L.sk = true) (o' : List UInt8) : EI G L L2 u (p + 2) o' :=
  ⟨h.lo, by have := h.hi; omega, h.sk, fun e' => (by rw [e] at e'; cases e')⟩
theorem EI.esc {G : Cfg} {L L2 L3 : Lay} {u p : Nat} {o : List UInt8} (h : EI G L L2 u p o) (e : L.sk = false) (hp : p ≤ G.T.length) (x : UInt8) (h3 : L3.esc = L2.esc ++ sub G.T u p ++ [x]) : EI G L L3 (p + 2) (p + 2) (o ++ [x]) := by
  have hlo := h.lo
  have hhi := h.hi
  refine ⟨by omega, Nat.le_refl _, fun e' => (by rw [e] at e'; cases e'), fun _ => ?_⟩
  obtain ⟨E1, h1, h2, h3', h4⟩ := h.un e
  refine ⟨E1 ++ sub G.T u p ++ [x], by rw [h3, h1]; simp, by rw [h2, sub_self]; simp, fun he => by simp at he, ?_⟩
  simp only [List.length_append, List.length_singleton]
  rw [sub_len hp]
  omega
theorem EI.len {G : Cfg} {L L2 : Lay} {u p : Nat} {o : List UInt8} (h : EI G L L2 u p o) : L2.esc.length + L.pos ≤ L.esc.length + p := by
  have := h.lo
  have := h.hi
  cases e : L.sk with
  | true => rw [(h.sk e).1]; omega
  | false =>
    obtain ⟨E1, h1, h2, h3, h4⟩ := h.un e
    rw [h1, List.length_append]; omega
/-- Where a token with escapes stands in the middle. -/
structure TM (G : Cfg) (L : Lay) (w : World) (P : UInt8 → Bool) (r : UInt8 → UInt8) (L2 : Lay) (w2 : World) (su m j : Nat) : Prop where
  dl : DL G L2 w2
  go : Go G L w L2 w2
  se : Se L L2 m
  ei : ∃ o, dm.Tk P r G.T L.pos (L.pos + m + j) o ∧ EI G L L2 (L.frm + su) (L.pos + m + j) o
  av : Av G L2 1
  le : L2.r1 + j ≤ L2.len
theorem TM.go' {G : Cfg} {L : Lay} {w : World} {P : UInt8 → Bool} {r : UInt8 → UInt8} {L2 : Lay} {w2 : World} {su m j : Nat} (h0 : DL G L w) (h : TM G L w P r L2 w2 su m j) {L3 : Lay} {w3 : World} (d : DL G L3 w3) (g : Go G L2 w2 L3 w3) (s : Sm L2 L3 0) (a : Av G L3 1) (hl : L2.len ≤ L3.len) : TM G L w P r L3 w3 su m j := by
  obtain ⟨o, h1, h2⟩ := h.ei
  exact ⟨d, h.go.trans h0 g, by simpa using h.se.trans s.se, ⟨o, h1, h2.same s.esc⟩, a, by have := s.r1; have := h.le; omega⟩
theorem TM.drewN {G : Cfg} {L : Lay} {w : World} {P : UInt8 → Bool} {r : UInt8 → UInt8} {L2 : Lay} {w2 : World} {su m j : Nat} (h0 : DL G L w) (h : TM G L w P r L2 w2 su m j) (q : Nat) : TM G L w P r L2 (w2.drewN q) su m j :=
  h.go' h0 (h.dl.drewN q) (Go.drewN G L2 w2 q) (Sm.refl L2) h.av (Nat.le_refl _)
/-- .. and at its end. -/
structure TE (G : Cfg) (L : Lay) (w : World) (P : UInt8 → Bool) (r : UInt8 → UInt8) (L2 : Lay) (w2 : World) (su n : Nat) : Prop where
  dl : DL G L2 w2
  go : Go G L w L2 w2
  se : Se L L2 n
  ei : ∃ o, dm.tokL P r (G.T.drop L.pos) = (o, n) ∧ EI G L L2 (L.frm + su) (L.pos + n) o
  av : Av G L2 1
theorem T_get {T : List UInt8} {i : Nat} (h : i < T.length) : T.getD i 0 = T[i] := by rw [List.getD_eq_getElem?_getD, List.getElem?_eq_getElem h]; rfl
/-- The cell that says where the decoder stands. -/
theorem put3 {G : Cfg} (hG : Base G) {L L2 : Lay} {w w2 : World} (h0 : DL G L w) (d : DL G L2 w2) (g : Go G L w L2 w2) (hn : L2.nb = false) (j : Nat) (hj : L2.r1 + j ≤ L2.len) (v : Int) (hv : v = (L2.r1 : Int) + (j : Int)) :
    DL G (L2.fwd j) (w2.setCell ⟨G.D, 3, none⟩ (.int .i64 v)) ∧ Go G L w (L2.fwd j) (w2.setCell ⟨G.D, 3, none⟩ (.int .i64 v)) := by
  have hp := d.put (L' := L2.fwd j) 3 (.int .i64 v) (by
    have e : ((L2.r1 + j : Nat) : Int) = v := by omega
    unfold Lay.cells
    simp only [Lay.fwd, e]
    rfl) ⟨rfl, rfl, rfl, rfl, rfl, rfl, rfl, rfl, rfl, rfl⟩ (fun e => (by rw [show (L2.fwd j).nb = L2.nb from rfl, hn] at e; cases e)) (by have := d.r01; show L2.r0 ≤ L2.r1 + j; omega) hj d.line hG
  exact ⟨hp.1, g.trans h0 hp.2⟩
theorem TM.fwd {G : Cfg} (hG : Base G) {L : Lay} {w : World} {P : UInt8 → Bool} {r : UInt8 → UInt8} {L2 : Lay} {w2 : World} {su m j : Nat} (h0 : DL G L w) (h : TM G L w P r L2 w2 su m j) (v : Int) (hv : v = (L2.r1 : Int) + (j : Int)) :
    DL G (L2.fwd j) (w2.setCell ⟨G.D, 3, none⟩ (.int .i64 v)) ∧ Go G L w (L2.fwd j) (w2.setCell ⟨G.D, 3, none⟩ (.int .i64 v)) ∧ Se L (L2.fwd j) (m + j) ∧ ∃ o, dm.Tk P r G.T L.pos (L.pos + (m + j)) o ∧ EI G L (L2.fwd j) (L.frm + su) (L.pos + (m + j)) o := by
  obtain ⟨o, h1, h2⟩ := h.ei
  rw [Nat.add_assoc] at h1 h2
  obtain ⟨p1, p2⟩ := put3 hG h0 h.dl h.go h.av.1 j h.le v hv
  exact ⟨p1, p2, h.se.trans (Sm.fwd L2 j).se, o, h1, h2.same rfl⟩
end Go.Proofs.YtlcbcgillekphaaGreatDoor.dec
