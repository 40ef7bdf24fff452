/-
  Proved: what a decoder in memory is (its cells, its buffer, its escape buffer, its reader), and plain laws on its steps.
  Conditions: each law's own.
-/
import Derived.Test.YtlcbcgillekphaaDoorRw
import Derived.Test.YtlcbcgillekphaaDoorDm
import Derived.Test.YtlcbcgillekphaaDoorBufR
import Derived.Lib.DecodeN
import Derived.WalkLawsBesides
import Derived.WalkSpells
import Derived.Outline
import Derived.Deep.QuietTactic
import Derived.BigQuiet
import Derived.Deep.RegionHeld3
namespace Go.Proofs.YtlcbcgillekphaaDoor.dec
open Go.RowKit Mem rw
set_option linter.unusedVariables false

/-- What a decode takes for given: the world at its beginning, the text, the blocks of the decoder and of its reader, the sizes of the pieces, where io.EOF points. -/
structure Cfg where
  w0 : World
  T : List UInt8
  D : Nat
  R : Nat
  sa : Option Addr
  sc : Nat
  zs : List Int
  ev : Addr
structure Base (G : Cfg) : Prop where
  eof : G.w0.cell? ⟨2, 0, none⟩ = some (.iface 91 (.pointer (some G.ev)))
  sizes : ∀ (j : Nat) (z : Int), G.zs[j]? = some z → ∃ A off, G.sa = some ⟨A, off, none⟩ ∧ G.w0.cell? ⟨A, off + j, none⟩ = some (.int .i64 z)
  pos : G.zs = [] ∨ ∃ (j : Nat) (z : Int), G.zs[j]? = some z ∧ 0 < z
  few : G.zs.length ≤ 100
  big : ∀ z ∈ G.zs, z ≤ 9223372036854775807
  tlen : G.T.length ≤ 4000
  tabs : Lib.Utf8Tabs 0 1 G.w0
  dlo : G.w0.heap.size ≤ G.D
  rlo : G.w0.heap.size ≤ G.R
/-- How a decoder lies. -/
structure Lay where
  rd : Value
  nb : Bool
  B : Nat
  cap : Nat
  len : Nat
  base : Nat
  r0 : Nat
  r1 : Nat
  cm : Bool
  sec : Nat
  sk : Bool
  E : Nat
  ecap : Nat
  esc : List UInt8
  line : Nat
def Lay.bufv (L : Lay) : Value := if L.nb then .slice none 0 0 else .slice (some ⟨L.B, 0, none⟩) L.len L.cap
def Lay.cells (L : Lay) : List Value :=
  [L.rd, L.bufv, .int .i64 L.r0, .int .i64 L.r1, .bool L.cm, .int .u8 L.sec, .bool L.sk, .slice (some ⟨L.E, 0, none⟩) L.esc.length L.ecap, .int .i64 L.line, .nilIface]
def Lay.pos (L : Lay) : Nat := L.base + L.r1
def Lay.frm (L : Lay) : Nat := L.base + L.r0
def own (G : Cfg) (L : Lay) : List Nat := if L.nb then [G.D, L.E, G.R] else [G.D, L.E, G.R, L.B]
/-- How far a size of more than nothing is away. -/
def dist (j0 n a : Nat) : Nat := if a % n ≤ j0 then j0 - a % n else j0 + n - a % n
/-- The reader has so much left; it has been read at_ times. -/
structure Rd (G : Cfg) (w : World) (left : List UInt8) (at_ : Nat) : Prop where
  row : Rw w G.R [.string ⟨left.toArray⟩, .slice G.sa G.zs.length G.sc, .int .i64 at_, .bool false] 72
  few : G.zs = [] → at_ = 0
  le : at_ + left.length * G.zs.length + dist (G.zs.findIdx fun z => decide (0 < z)) G.zs.length at_ ≤ 1000000
structure DL (G : Cfg) (L : Lay) (w : World) : Prop where
  row : Rw w G.D L.cells 59
  buf : L.nb = false → BufAt w L.B ((G.T.drop L.base).take L.len) L.cap ∧ G.D ≠ L.B ∧ L.B ≠ L.E ∧ G.w0.heap.size ≤ L.B ∧ G.R ≠ L.B
  nbz : L.nb = true → L.len = 0 ∧ L.r1 = 0 ∧ L.base = 0 ∧ L.cm = false
  blen : L.base + L.len ≤ G.T.length
  r01 : L.r0 ≤ L.r1
  r1l : L.r1 ≤ L.len
  esc : BufAt w L.E L.esc L.ecap
  escl : L.esc.length ≤ 100000
  DE : G.D ≠ L.E
  RE : G.R ≠ L.E
  lo : G.w0.heap.size ≤ L.E
  all : L.cm = true → L.base + L.len = G.T.length
  more : L.cm = false → L.rd = .iface 53 (.pointer (some ⟨G.R, 0, none⟩)) ∧ (∃ at_, Rd G w (G.T.drop (L.base + L.len)) at_) ∧ G.R ≠ G.D ∧ (L.nb = false → L.cap = 8192)
  bel : Below G.w0.heap.size G.w0 w
  line : L.line ≤ 1000000
  rlt : G.R < w.heap.size
theorem DL.blen' {G : Cfg} {L : Lay} {w : World} (h : DL G L w) : ((G.T.drop L.base).take L.len).length = L.len := by
  have := h.blen
  rw [List.length_take, List.length_drop]; omega
theorem DL.lenle {G : Cfg} {L : Lay} {w : World} (h : DL G L w) (hG : Base G) : L.len ≤ 4000 := by have := h.blen; have := hG.tlen; omega
/-- A step of the decoder: what becomes of memory. -/
structure Step (G : Cfg) (L : Lay) (w : World) (L' : Lay) (w' : World) : Prop where
  but : But (own G L) w w'
  nB : L.nb = false → L'.nb = false ∧ L'.B = L.B
  nB' : L.nb = true → L'.nb = false → w.heap.size ≤ L'.B
  nE : L'.E = L.E ∨ w.heap.size ≤ L'.E
/-- One that leaves the bytes that were there. -/
structure Go (G : Cfg) (L : Lay) (w : World) (L' : Lay) (w' : World) : Prop extends Step G L w L' w' where
  kB : L.nb = false → L.len ≤ L'.len ∧ ∀ j, j < L.len → w'.cell? ⟨L.B, j, none⟩ = w.cell? ⟨L.B, j, none⟩
  kE : ∀ j, j < L.esc.length → w'.cell? ⟨L.E, j, none⟩ = w.cell? ⟨L.E, j, none⟩
  kE' : L'.E = L.E → L.esc.length ≤ L'.esc.length
theorem own_lt {G : Cfg} {L : Lay} {w : World} (h : DL G L w) : ∀ x ∈ own G L, x ≠ G.R → x < w.heap.size := by
  intro x hx hR
  unfold own at hx
  have h1 := Rw.lt h.row
  have h2 := h.esc.lt
  cases hn : L.nb with
  | true =>
    rw [hn] at hx
    simp at hx
    rcases hx with rfl | rfl | rfl
    · exact h1
    · exact h2
    · exact absurd rfl hR
  | false =>
    have h3 := (h.buf hn).1.lt
    rw [hn] at hx
    simp at hx
    rcases hx with rfl | rfl | rfl | rfl
    · exact h1
    · exact h2
    · exact absurd rfl hR
    · exact h3
theorem own_lo {G : Cfg} {L : Lay} {w : World} (h : DL G L w) (hG : Base G) : ∀ x ∈ own G L, G.w0.heap.size ≤ x := by
  intro x hx
  unfold own at hx
  cases hn : L.nb with
  | true =>
    rw [hn] at hx
    simp at hx
    rcases hx with rfl | rfl | rfl
    · exact hG.dlo
    · exact h.lo
    · exact hG.rlo
  | false =>
    rw [hn] at hx
    simp at hx
    rcases hx with rfl | rfl | rfl | rfl
    · exact hG.dlo
    · exact h.lo
    · exact hG.rlo
    · exact (h.buf hn).2.2.2.1
theorem own_next {G : Cfg} {L L' : Lay} {w w' : World} (s : Step G L w L' w') : ∀ x ∈ own G L', x ∈ own G L ∨ w.heap.size ≤ x := by
  intro x hx
  unfold own at hx ⊢
  cases hn : L.nb with
  | false =>
    obtain ⟨h1, h2⟩ := s.nB hn
    rw [h1] at hx
    simp at hx ⊢
    rcases hx with rfl | rfl | rfl | rfl
    · exact .inl (.inl rfl)
    · rcases s.nE with e | e
      · exact .inl (.inr (.inl e))
      · exact .inr e
    · exact .inl (.inr (.inr (.inl rfl)))
    · exact .inl (.inr (.inr (.inr h2)))
  | true =>
    cases hn' : L'.nb with
    | true =>
      rw [hn'] at hx
      simp at hx ⊢
      rcases hx with rfl | rfl | rfl
      · exact .inl (.inl rfl)
      · rcases s.nE with e | e
        · exact .inl (.inr (.inl e))
        · exact .inr e
      · exact .inl (.inr (.inr rfl))
    | false =>
      have h2 := s.nB' hn hn'
      rw [hn'] at hx
      simp at hx ⊢
      rcases hx with rfl | rfl | rfl | rfl
      · exact .inl (.inl rfl)
      · rcases s.nE with e | e
        · exact .inl (.inr (.inl e))
        · exact .inr e
      · exact .inl (.inr (.inr rfl))
      · exact .inr h2
theorem Step.trans {G : Cfg} {L L1 L2 : Lay} {w w1 w2 : World} (a : Step G L w L1 w1) (b : Step G L1 w1 L2 w2) : Step G L w L2 w2 := by
  have hs := a.but.size
  refine ⟨a.but.join b.but (fun _ e => e) (fun x hx hlt => ?_), fun h => ?_, fun h h2 => ?_, ?_⟩
  · rcases own_next a x hx with e | e
    · exact e
    · omega
  · obtain ⟨h1, h2⟩ := a.nB h
    obtain ⟨h3, h4⟩ := b.nB h1
    exact ⟨h3, h4.trans h2⟩
  · cases hn : L1.nb with
    | true => have := b.nB' hn h2; omega
    | false =>
      have h1 := a.nB' h hn
      have := (b.nB hn).2
      omega
  · rcases b.nE with e | e
    · rcases a.nE with f | f
      · exact .inl (e.trans f)
      · exact .inr (by omega)
    · exact .inr (by omega)
theorem Go.refl (G : Cfg) (L : Lay) (w : World) : Go G L w L w :=
  ⟨⟨But.refl _ _, fun h => ⟨h, rfl⟩, fun h h2 => (by rw [h] at h2; cases h2), .inl rfl⟩, fun _ => ⟨Nat.le_refl _, fun _ _ => rfl⟩, fun _ _ => rfl, fun _ => Nat.le_refl _⟩
theorem mem_own {G : Cfg} {L : Lay} {x : Nat} : x ∈ own G L ↔ x = G.D ∨ x = L.E ∨ x = G.R ∨ (L.nb = false ∧ x = L.B) := by
  unfold own
  cases L.nb <;> simp
/-- The escape buffer's block is another one behind a step that moved it. -/
theorem esc_out {G : Cfg} {L L1 : Lay} {w w1 : World} (hL : DL G L w) (a : Step G L w L1 w1) (e1 : L1.E ≠ L.E) : L.E ∉ own G L1 := by
  have hlt := hL.esc.lt
  have hf : w.heap.size ≤ L1.E := by
    rcases a.nE with e | e
    · exact absurd e e1
    · exact e
  rw [mem_own]
  rintro (e | e | e | ⟨hn, e⟩)
  · exact hL.DE e.symm
  · exact e1 e.symm
  · exact hL.RE e.symm
  · cases hb : L.nb with
    | true => have := a.nB' hb hn; omega
    | false =>
      have h1 := (a.nB hb).2
      exact (hL.buf hb).2.2.1 (by rw [← h1]; exact e.symm)
theorem Go.trans {G : Cfg} {L L1 L2 : Lay} {w w1 w2 : World} (hL : DL G L w) (a : Go G L w L1 w1) (b : Go G L1 w1 L2 w2) : Go G L w L2 w2 := by
  refine ⟨a.toStep.trans b.toStep, fun h => ?_, fun j hj => ?_, fun e => ?_⟩
  · obtain ⟨h1, h2⟩ := a.nB h
    obtain ⟨h3, h4⟩ := a.kB h
    obtain ⟨h5, h6⟩ := b.kB h1
    refine ⟨by omega, fun j hj => ?_⟩
    have := h6 j (by omega)
    rw [h2] at this
    exact this.trans (h4 j hj)
  · by_cases e1 : L1.E = L.E
    · have := b.kE j (by have := a.kE' e1; omega)
      rw [e1] at this
      exact this.trans (a.kE j hj)
    · have hlt := hL.esc.lt
      exact Eq.trans (b.but.cell (p := ⟨L.E, j, none⟩) (by have := a.but.size; show L.E < _; omega) (esc_out hL a.toStep e1)) (a.kE j hj)
  · have hlt := hL.esc.lt
    have hs := a.but.size
    by_cases e1 : L1.E = L.E
    · exact Nat.le_trans (a.kE' e1) (b.kE' (by rw [e1]; exact e))
    · rcases a.nE with f | f
      · exact absurd f e1
      · rcases b.nE with g | g
        · omega
        · omega
/-- Bytes that a slice has, and that a step of the decoder leaves. -/
structure Held (G : Cfg) (L : Lay) (w : World) (a : Option Addr) (l : List UInt8) : Prop where
  bytes : Bs w a l
  loc : ∀ A off, a = some ⟨A, off, none⟩ → A < w.heap.size ∧ ((L.nb = false ∧ A = L.B ∧ off + l.length ≤ L.len) ∨ (A = L.E ∧ off + l.length ≤ L.esc.length) ∨ A ∉ own G L)
theorem Held.go {G : Cfg} {L L' : Lay} {w w' : World} {a : Option Addr} {l : List UInt8} (hL : DL G L w) (h : Held G L w a l) (s : Go G L w L' w') : Held G L' w' a l := by
  have hs := s.but.size
  rcases h.bytes with ⟨rfl, rfl⟩ | ⟨A, off, rfl, hc⟩
  · exact ⟨.inl ⟨rfl, rfl⟩, fun A off e => by cases e⟩
  · obtain ⟨hlt, hloc⟩ := h.loc A off rfl
    have keep : (∀ j x, l[j]? = some x → w'.cell? ⟨A, off + j, none⟩ = w.cell? ⟨A, off + j, none⟩) ∧ ((L'.nb = false ∧ A = L'.B ∧ off + l.length ≤ L'.len) ∨ (A = L'.E ∧ off + l.length ≤ L'.esc.length) ∨ A ∉ own G L') := by
      rcases hloc with ⟨h1, h2, h3⟩ | ⟨h2, h3⟩ | h2
      · obtain ⟨k1, k2⟩ := s.kB h1
        obtain ⟨n1, n2⟩ := s.nB h1
        subst h2
        refine ⟨fun j x hj => k2 _ (by have := (List.getElem?_eq_some_iff.1 hj).1; omega), .inl ⟨n1, n2.symm, by omega⟩⟩
      · subst h2
        refine ⟨fun j x hj => s.kE _ (by have := (List.getElem?_eq_some_iff.1 hj).1; omega), ?_⟩
        by_cases e1 : L'.E = L.E
        · exact .inr (.inl ⟨e1.symm, by have := s.kE' e1; omega⟩)
        · exact .inr (.inr (esc_out hL s.toStep e1))
      · refine ⟨fun j x hj => s.but.cell (p := ⟨A, off + j, none⟩) hlt h2, .inr (.inr fun hx => ?_)⟩
        rcases own_next s.toStep A hx with e | e
        · exact h2 e
        · omega
    refine ⟨.inr ⟨A, off, rfl, fun j x hj => (keep.1 j x hj).trans (hc j x hj)⟩, fun A' off' e => ?_⟩
    cases e
    exact ⟨by omega, keep.2⟩
/-- Something of one's own stays as it is. -/
theorem Step.keep {G : Cfg} {L L' : Lay} {w w' : World} (s : Step G L w L' w') {X : Nat} {l : List Value} {T : TypeId} (h : Rw w X l T) (hn : X ∉ own G L) : Rw w' X l T ∧ X ∉ own G L' :=
  ⟨Rw.but h s.but hn, fun hx => by
    rcases own_next s X hx with e | e
    · exact hn e
    · have := Rw.lt h; omega⟩
theorem DL.drewN {G : Cfg} {L : Lay} {w : World} (h : DL G L w) (n : Nat) : DL G L (w.drewN n) := by
  have hb : But [] w (w.drewN n) := (But.refl [] w).drewN
  exact ⟨h.row, fun hn => ⟨(h.buf hn).1.but hb (by simp), (h.buf hn).2⟩, h.nbz, h.blen, h.r01, h.r1l, h.esc.but hb (by simp), h.escl, h.DE, h.RE, h.lo, h.all, fun hc => ⟨(h.more hc).1, let ⟨a, ha⟩ := (h.more hc).2.1; ⟨a, ha.row, ha.few, ha.le⟩, (h.more hc).2.2⟩,
    h.bel.trans ((hb.toBelow).mono h.bel.size), h.line, Nat.lt_of_lt_of_le h.rlt hb.size⟩
theorem Go.drewN (G : Cfg) (L : Lay) (w : World) (n : Nat) : Go G L w L (w.drewN n) :=
  ⟨⟨(But.refl _ w).drewN, fun h => ⟨h, rfl⟩, fun h h2 => (by rw [h] at h2; cases h2), .inl rfl⟩, fun _ => ⟨Nat.le_refl _, fun _ _ => rfl⟩, fun _ _ => rfl, fun _ => Nat.le_refl _⟩
/-- A store into one of the decoder's cells. -/
theorem DL.put {G : Cfg} {L L' : Lay} {w : World} (h : DL G L w) (j : Nat) (v : Value) (hc : L'.cells = L.cells.set j v)
    (hsame : L'.rd = L.rd ∧ L'.nb = L.nb ∧ L'.B = L.B ∧ L'.cap = L.cap ∧ L'.len = L.len ∧ L'.base = L.base ∧ L'.cm = L.cm ∧ L'.E = L.E ∧ L'.ecap = L.ecap ∧ L'.esc = L.esc)
    (hz : L'.nb = true → L'.r1 = 0) (h01 : L'.r0 ≤ L'.r1) (h1l : L'.r1 ≤ L'.len) (hl : L'.line ≤ 1000000) (hG : Base G) :
    DL G L' (w.setCell ⟨G.D, j, none⟩ v) ∧ Go G L w L' (w.setCell ⟨G.D, j, none⟩ v) := by
  obtain ⟨e1, e2, e3, e4, e5, e6, e7, e8, e9, e10⟩ := hsame
  have hb : But [G.D] w (w.setCell ⟨G.D, j, none⟩ v) := (But.refl _ w).setCell (Or.inl (by simp)) _
  refine ⟨⟨?_, ?_, ?_, ?_, h01, h1l, ?_, by rw [e10]; exact h.escl, by rw [e8]; exact h.DE, by rw [e8]; exact h.RE, by rw [e8]; exact h.lo, ?_, ?_, ?_, hl, Nat.lt_of_lt_of_le h.rlt hb.size⟩, ⟨⟨hb.mono (fun k hk => by rw [mem_own]; simp at hk; exact .inl hk), ?_, ?_, .inl e8⟩, ?_, ?_, ?_⟩⟩
  · rw [hc]; exact Rw.set h.row j v
  · intro hn
    rw [e2] at hn
    obtain ⟨b1, b2, b3, b4, b5⟩ := h.buf hn
    rw [e3, e4, e5, e6, e8]
    exact ⟨b1.but hb (by simpa using fun e => b2 e.symm), b2, b3, b4, b5⟩
  · intro hn
    have h0 := h.nbz (by rw [← e2]; exact hn)
    rw [e5, e6, e7]
    exact ⟨h0.1, hz hn, h0.2.2⟩
  · rw [e5, e6]; exact h.blen
  · rw [e8, e9, e10]; exact h.esc.but hb (by simpa using fun e => h.DE e.symm)
  · rw [e5, e6, e7]; exact h.all
  · intro hcm
    rw [e7] at hcm
    obtain ⟨m1, ⟨a, ha⟩, m3, m4⟩ := h.more hcm
    rw [e1, e2, e4, e5, e6]
    exact ⟨m1, ⟨a, Rw.but ha.row hb (by simpa using m3), ha.few, ha.le⟩, m3, m4⟩
  · exact h.bel.trans ((hb.below G.w0.heap.size h.bel.size (by simpa using hG.dlo)))
  · intro hn
    exact ⟨by rw [e2]; exact hn, e3⟩
  · intro hn hn'
    rw [e2, hn] at hn'
    cases hn'
  · intro hn
    refine ⟨by omega, fun q hq => hb.cell (p := ⟨L.B, q, none⟩) (h.buf hn).1.lt (by simpa using fun e => (h.buf hn).2.1 e.symm)⟩
  · intro q hq
    exact hb.cell (p := ⟨L.E, q, none⟩) h.esc.lt (by simpa using fun e => h.DE e.symm)
  · intro _
    rw [e10]; exact Nat.le_refl _
/-- The byte at a place that the buffer has. -/
theorem DL.byte {G : Cfg} {L : Lay} {w : World} (h : DL G L w) (hn : L.nb = false) {j : Nat} (hj : j < L.len) : w.cell? ⟨L.B, j, none⟩ = some (.int .u8 ((G.T.getD (L.base + j) 0).toNat : Int)) := by
  have hb := h.blen
  have hlt : L.base + j < G.T.length := by omega
  refine (h.buf hn).1.bytes j _ ?_
  rw [List.getElem?_take, if_pos hj, List.getElem?_drop, List.getD_eq_getElem?_getD, List.getElem?_eq_getElem hlt]
  rfl
/-- What a step leaves of a decoder's lay. -/
structure Mv (L L' : Lay) (n : Nat) : Prop where
  base : L'.base = L.base
  r0 : L'.r0 = L.r0
  r1 : L'.r1 = L.r1 + n
  nb : L'.nb = false
  sec : L'.sec = L.sec
  sk : L'.sk = L.sk
theorem Mv.pos {L L' : Lay} {n : Nat} (h : Mv L L' n) : L'.pos = L.pos + n := by unfold Lay.pos; rw [h.base, h.r1]; omega
theorem Mv.trans {L L1 L2 : Lay} {n m : Nat} (a : Mv L L1 n) (b : Mv L1 L2 m) : Mv L L2 (n + m) :=
  ⟨b.base.trans a.base, b.r0.trans a.r0, by rw [b.r1, a.r1]; omega, b.nb, b.sec.trans a.sec, b.sk.trans a.sk⟩
/-- There are n bytes ahead in the buffer, or all that there are. -/
def Av (G : Cfg) (L : Lay) (n : Nat) : Prop := L.nb = false ∧ min (L.pos + n) G.T.length ≤ L.base + L.len
theorem Av.mono {G : Cfg} {L : Lay} {n m : Nat} (h : Av G L n) (hm : m ≤ n) : Av G L m := ⟨h.1, by have := h.2; omega⟩
end Go.Proofs.YtlcbcgillekphaaDoor.dec
