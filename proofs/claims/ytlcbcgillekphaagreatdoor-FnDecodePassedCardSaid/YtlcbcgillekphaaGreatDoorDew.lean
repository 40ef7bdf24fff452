/-
  Proved: laws for an append to the decoder's escape buffer.
  Conditions: a decoder in memory.
-/
import Derived.Test.YtlcbcgillekphaaGreatDoorDev
import Derived.Deep.RegionLaw
namespace Go.Proofs.YtlcbcgillekphaaGreatDoor.dec
open Go.RowKit Mem rw
set_option linter.unusedVariables false

/-- What an append of bytes to such a buffer leaves. -/
structure App (w : World) (A : Nat) (l y : List UInt8) (g cap' : Nat) (w' : World) : Prop where
  buf : BufAt w' g (l ++ y) cap'
  but : But [A] w w'
  g : g = A ∨ g = w.heap.size
  keep : ∀ j, j < l.length → w'.cell? ⟨A, j, none⟩ = w.cell? ⟨A, j, none⟩
theorem app_esc {w : World} {ops : Array Oper} {rest : List Oper} {o : Oper} {a : Act} {Q : Exit → Act → World → Prop} (hgd : o.guard = none) (s x : Operand)
    (ho : o.op = .call { callee := .builtin .append, args := #[s, x], argTypes := #[51, 51] }) (A n cap : Nat) (l : List UInt8) (hs : a.eval s = .slice (some ⟨A, 0, none⟩) n cap) (hn : l.length = n) (hbuf : BufAt w A l cap)
    (B p m c : Nat) (y : List UInt8) (hx : a.eval x = .slice (some ⟨B, p, none⟩) m c) (hy : ∀ j x, y[j]? = some x → w.cell? ⟨B, p + j, none⟩ = some (.int .u8 (x.toNat : Int))) (hm : y.length = m) (hlim : n + m ≤ 70368744177664)
    (h : ∀ g cap' w', Hid (App w A l y g cap' w') → wpList Tryz.prog ops Q rest (a.put o.dst (.slice (some ⟨g, 0, none⟩) (n + m) cap')) w') : wpList Tryz.prog ops Q (o :: rest) a w := by
  subst hn
  obtain ⟨g, cap', w', hr, hb, hbut, hg, hk⟩ := hbuf.append_row2 B p m c y hy hm hlim o.type
  exact app_step hgd s x _ _ ho _ _ _ hs hx hr (h g cap' w' (Lib.hid ⟨hb, hbut, hg, hk⟩))
theorem app_escn {w : World} {ops : Array Oper} {rest : List Oper} {o : Oper} {a : Act} {Q : Exit → Act → World → Prop} (hgd : o.guard = none) (s x : Operand)
    (ho : o.op = .call { callee := .builtin .append, args := #[s, x], argTypes := #[51, 51] }) (A n cap : Nat) (l : List UInt8) (hs : a.eval s = .slice (some ⟨A, 0, none⟩) n cap) (hn : l.length = n) (hbuf : BufAt w A l cap)
    (B p m c : Nat) (y : List UInt8) (hx : a.eval x = .slice (some ⟨B, p, none⟩) m c) (hy : ∀ j x, y[j]? = some x → w.cell? ⟨B, p + j, none⟩ = some (.int .u8 (x.toNat : Int))) (hm : y.length = m) (hlim : n + m ≤ 70368744177664) (N : Nat) (hN : n + m = N)
    (h : ∀ g cap' w', Hid (App w A l y g cap' w') → wpList Tryz.prog ops Q rest (a.put o.dst (.slice (some ⟨g, 0, none⟩) N cap')) w') : wpList Tryz.prog ops Q (o :: rest) a w := by
  subst hN
  exact app_esc hgd s x ho A n cap l hs hn hbuf B p m c y hx hy hm hlim h
theorem step_esc {w : World} {ops : Array Oper} {o : Oper} {a : Act} {K : Act → World → Prop} {Q : Exit → Act → World → Prop} {E : Prop} (hgd : o.guard = none) (s x : Operand)
    (ho : o.op = .call { callee := .builtin .append, args := #[s, x], argTypes := #[51, 51] }) (A n cap : Nat) (l : List UInt8) (hs : a.eval s = .slice (some ⟨A, 0, none⟩) n cap) (hn : l.length = n) (hbuf : BufAt w A l cap)
    (B p m c : Nat) (y : List UInt8) (hx : a.eval x = .slice (some ⟨B, p, none⟩) m c) (hy : ∀ j x, y[j]? = some x → w.cell? ⟨B, p + j, none⟩ = some (.int .u8 (x.toNat : Int))) (hm : y.length = m) (hlim : n + m ≤ 70368744177664) (N : Nat) (hN : n + m = N)
    (h : ∀ g cap' w', Hid (App w A l y g cap' w') → K (a.put o.dst (.slice (some ⟨g, 0, none⟩) N cap')) w') : if Region.wanted o (yielded ops a.tmps) = true then Oper.wp Tryz.prog o a w K Q else E := by
  subst hn
  subst hN
  obtain ⟨g, cap', w', hr, hb, hbut, hg, hk⟩ := hbuf.append_row2 B p m c y hy hm hlim o.type
  have hw : Region.wanted o (yielded ops a.tmps) = true := by simp [Region.wanted, hgd]
  rw [if_pos hw]
  unfold Oper.wp execOp
  simp only [ho, resolve, invoke, builtin, Sem.run_bind, Sem.run_pure, Result.andThen_ok, List.map_toArray, List.map_cons, List.map_nil, hs, hx, hr]
  exact h g cap' w' (Lib.hid ⟨hb, hbut, hg, hk⟩)
def Lay.more (L : Lay) (y : List UInt8) (g cap' : Nat) : Lay := { L with E := g, ecap := cap', esc := L.esc ++ y }
theorem DL.app {G : Cfg} (hG : Base G) {L : Lay} {w w1 : World} (h : DL G L w) {y : List UInt8} {g cap' : Nat} (a : App w L.E L.esc y g cap' w1) (hl : (L.esc ++ y).length ≤ 100000) (N : Nat) (hN : L.esc.length + y.length = N) :
    DL G (L.more y g cap') (w1.setCell ⟨G.D, 7, none⟩ (.slice (some ⟨g, 0, none⟩) N cap')) ∧ Go G L w (L.more y g cap') (w1.setCell ⟨G.D, 7, none⟩ (.slice (some ⟨g, 0, none⟩) N cap')) := by
  obtain ⟨hb, hbut, hg, hk⟩ := a
  have hD := Rw.lt h.row
  have hE := h.esc.lt
  have hR := h.rlt
  have hDg : G.D ≠ g := by rcases hg with e | e; rw [e]; exact h.DE; omega
  have hRg : G.R ≠ g := by rcases hg with e | e; rw [e]; exact h.RE; omega
  have hst : But [G.D] w1 (w1.setCell ⟨G.D, 7, none⟩ (.slice (some ⟨g, 0, none⟩) N cap')) := (But.refl _ w1).setCell (Or.inl (by simp)) _
  have hall : But [L.E, G.D] w (w1.setCell ⟨G.D, 7, none⟩ (.slice (some ⟨g, 0, none⟩) N cap')) := (hbut.mono (by simp)).trans (hst.mono (by simp))
  have hrow : Rw (w1.setCell ⟨G.D, 7, none⟩ (.slice (some ⟨g, 0, none⟩) N cap')) G.D (L.more y g cap').cells 63 := by
    have h2 := Rw.set (Rw.but h.row hbut (by simpa using h.DE)) 7 (.slice (some ⟨g, 0, none⟩) N cap')
    have e : (L.more y g cap').cells = L.cells.set 7 (.slice (some ⟨g, 0, none⟩) N cap') := by
      unfold Lay.cells
      simp only [Lay.more, List.length_append, hN]
      rfl
    rw [e]; exact h2
  refine ⟨⟨hrow, ?_, h.nbz, h.blen, h.r01, h.r1l, hb.but hst (by simpa using fun e => hDg e.symm), hl, hDg, hRg, ?_, h.all, ?_, ?_, h.line, Nat.lt_of_lt_of_le hR hall.size⟩,
    ⟨⟨hall.mono (fun x hx => by rw [mem_own]; simp at hx; rcases hx with e | e; exact .inr (.inl e); exact .inl e), fun hn => ⟨hn, rfl⟩, fun hn hn' => (by rw [show (L.more y g cap').nb = L.nb from rfl, hn] at hn'; cases hn'), ?_⟩, ?_, ?_, ?_⟩⟩
  · intro hn
    obtain ⟨b1, b2, b3, b4, b5⟩ := h.buf hn
    refine ⟨b1.but hall (by simp; exact ⟨b3, fun e => b2 e.symm⟩), b2, ?_, b4, b5⟩
    have := b1.lt
    show L.B ≠ g
    rcases hg with e | e
    · rw [e]; exact b3
    · omega
  · have := h.bel.size
    have := h.lo
    show G.w0.heap.size ≤ g
    rcases hg with e | e <;> omega
  · intro hc
    obtain ⟨m1, ⟨at_, ha⟩, m3, m4⟩ := h.more hc
    exact ⟨m1, ⟨at_, Rw.but ha.row hall (by simp; exact ⟨h.RE, m3⟩), ha.few, ha.le⟩, m3, m4⟩
  · exact h.bel.trans (hall.below G.w0.heap.size h.bel.size (by simp; exact ⟨h.lo, hG.dlo⟩))
  · rcases hg with e | e
    · exact .inl e
    · exact .inr (by show w.heap.size ≤ g; omega)
  · intro hn
    obtain ⟨b1, b2, b3, b4, b5⟩ := h.buf hn
    exact ⟨Nat.le_refl _, fun j _ => hall.cell (p := ⟨L.B, j, none⟩) b1.lt (by simp; exact ⟨b3, fun e => b2 e.symm⟩)⟩
  · intro j hj
    exact (hst.cell (p := ⟨L.E, j, none⟩) (by have := hbut.size; show L.E < _; omega) (by simpa using fun e => h.DE e.symm)).trans (hk j hj)
  · intro _
    show L.esc.length ≤ (L.esc ++ y).length
    simp
end Go.Proofs.YtlcbcgillekphaaGreatDoor.dec
