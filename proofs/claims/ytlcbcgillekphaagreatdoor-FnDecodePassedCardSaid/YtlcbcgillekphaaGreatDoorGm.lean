/-
  Proved: what a decoder in memory is (its cells, its buffer, its escape buffer, its reader), and plain laws on its steps · the contract of the reader's Read: what it lays into a row's spare room, what is left then · the contract of the decoder's readMore.
  Conditions: each law's own; a text of at most 4000 bytes where one is read.
-/
import Derived.Test.YtlcbcgillekphaaGreatDoorGa
import Derived.Lib.DecodeN
import Derived.WalkLawsBesides
import Derived.WalkSpells
import Derived.Outline
import Derived.Deep.QuietTactic
import Derived.BigQuiet
import Derived.Deep.RegionHeld3
namespace Go.Proofs.YtlcbcgillekphaaGreatDoor.dec
open Go.RowKit Mem rw
set_option linter.unusedVariables false

/-- What a decode takes for given: the world at its beginning, the text, the blocks of the decoder and of its reader, the sizes of the pieces, where io.EOF points. -/
structure Cfg where
  w0 : World
  T : List UInt8
  D : Nat
  R : Nat
  sa : Option Addr
  sc : Nat
  zs : List Int
  ev : Addr
structure Base (G : Cfg) : Prop where
  eof : G.w0.cell? ⟨1, 0, none⟩ = some (.iface 119 (.pointer (some G.ev)))
  sizes : ∀ (j : Nat) (z : Int), G.zs[j]? = some z → ∃ A off, G.sa = some ⟨A, off, none⟩ ∧ G.w0.cell? ⟨A, off + j, none⟩ = some (.int .i64 z)
  pos : G.zs = [] ∨ ∃ (j : Nat) (z : Int), G.zs[j]? = some z ∧ 0 < z
  few : G.zs.length ≤ 100
  big : ∀ z ∈ G.zs, z ≤ 9223372036854775807
  tlen : G.T.length ≤ 4000
  tabs : Lib.Utf8Tabs 2 3 G.w0
  dlo : G.w0.heap.size ≤ G.D
  rlo : G.w0.heap.size ≤ G.R
/-- How a decoder lies. -/
structure Lay where
  rd : Value
  nb : Bool
  B : Nat
  cap : Nat
  len : Nat
  base : Nat
  r0 : Nat
  r1 : Nat
  cm : Bool
  sec : Nat
  sk : Bool
  E : Nat
  ecap : Nat
  esc : List UInt8
  line : Nat
def Lay.bufv (L : Lay) : Value := if L.nb then .slice none 0 0 else .slice (some ⟨L.B, 0, none⟩) L.len L.cap
def Lay.cells (L : Lay) : List Value :=
  [L.rd, L.bufv, .int .i64 L.r0, .int .i64 L.r1, .bool L.cm, .int .u8 L.sec, .bool L.sk, .slice (some ⟨L.E, 0, none⟩) L.esc.length L.ecap, .int .i64 L.line, .nilIface]
def Lay.pos (L : Lay) : Nat := L.base + L.r1
def Lay.frm (L : Lay) : Nat := L.base + L.r0
def own (G : Cfg) (L : Lay) : List Nat := if L.nb then [G.D, L.E, G.R] else [G.D, L.E, G.R, L.B]
/-- How far a size of more than nothing is away. -/
def dist (j0 n a : Nat) : Nat := if a % n ≤ j0 then j0 - a % n else j0 + n - a % n
/-- The reader has so much left; it has been read at_ times. -/
structure Rd (G : Cfg) (w : World) (left : List UInt8) (at_ : Nat) : Prop where
  row : Rw w G.R [.string ⟨left.toArray⟩, .slice G.sa G.zs.length G.sc, .int .i64 at_, .bool false] 89
  few : G.zs = [] → at_ = 0
  le : at_ + left.length * G.zs.length + dist (G.zs.findIdx fun z => decide (0 < z)) G.zs.length at_ ≤ 1000000
structure DL (G : Cfg) (L : Lay) (w : World) : Prop where
  row : Rw w G.D L.cells 63
  buf : L.nb = false → BufAt w L.B ((G.T.drop L.base).take L.len) L.cap ∧ G.D ≠ L.B ∧ L.B ≠ L.E ∧ G.w0.heap.size ≤ L.B ∧ G.R ≠ L.B
  nbz : L.nb = true → L.len = 0 ∧ L.r1 = 0 ∧ L.base = 0 ∧ L.cm = false
  blen : L.base + L.len ≤ G.T.length
  r01 : L.r0 ≤ L.r1
  r1l : L.r1 ≤ L.len
  esc : BufAt w L.E L.esc L.ecap
  escl : L.esc.length ≤ 100000
  DE : G.D ≠ L.E
  RE : G.R ≠ L.E
  lo : G.w0.heap.size ≤ L.E
  all : L.cm = true → L.base + L.len = G.T.length
  more : L.cm = false → L.rd = .iface 53 (.pointer (some ⟨G.R, 0, none⟩)) ∧ (∃ at_, Rd G w (G.T.drop (L.base + L.len)) at_) ∧ G.R ≠ G.D ∧ (L.nb = false → L.cap = 8192)
  bel : Below G.w0.heap.size G.w0 w
  line : L.line ≤ 1000000
  rlt : G.R < w.heap.size
theorem DL.blen' {G : Cfg} {L : Lay} {w : World} (h : DL G L w) : ((G.T.drop L.base).take L.len).length = L.len := by
  have := h.blen
  rw [List.length_take, List.length_drop]; omega
theorem DL.lenle {G : Cfg} {L : Lay} {w : World} (h : DL G L w) (hG : Base G) : L.len ≤ 4000 := by have := h.blen; have := hG.tlen; omega
/-- A step of the decoder: what becomes of memory. -/
structure Step (G : Cfg) (L : Lay) (w : World) (L' : Lay) (w' : World) : Prop where
  but : But (own G L) w w'
  nB : L.nb = false → L'.nb = false ∧ L'.B = L.B
  nB' : L.nb = true → L'.nb = false → w.heap.size ≤ L'.B
  nE : L'.E = L.E ∨ w.heap.size ≤ L'.E
/-- One that leaves the bytes that were there. -/
structure Go (G : Cfg) (L : Lay) (w : World) (L' : Lay) (w' : World) : Prop extends Step G L w L' w' where
  kB : L.nb = false → L.len ≤ L'.len ∧ ∀ j, j < L.len → w'.cell? ⟨L.B, j, none⟩ = w.cell? ⟨L.B, j, none⟩
  kE : ∀ j, j < L.esc.length → w'.cell? ⟨L.E, j, none⟩ = w.cell? ⟨L.E, j, none⟩
  kE' : L'.E = L.E → L.esc.length ≤ L'.esc.length
theorem own_lt {G : Cfg} {L : Lay} {w : World} (h : DL G L w) : ∀ x ∈ own G L, x ≠ G.R → x < w.heap.size := by
  intro x hx hR
  unfold own at hx
  have h1 := Rw.lt h.row
  have h2 := h.esc.lt
  cases hn : L.nb with
  | true =>
    rw [hn] at hx
    simp at hx
    rcases hx with rfl | rfl | rfl
    · exact h1
    · exact h2
    · exact absurd rfl hR
  | false =>
    have h3 := (h.buf hn).1.lt
    rw [hn] at hx
    simp at hx
    rcases hx with rfl | rfl | rfl | rfl
    · exact h1
    · exact h2
    · exact absurd rfl hR
    · exact h3
theorem own_lo {G : Cfg} {L : Lay} {w : World} (h : DL G L w) (hG : Base G) : ∀ x ∈ own G L, G.w0.heap.size ≤ x := by
  intro x hx
  unfold own at hx
  cases hn : L.nb with
  | true =>
    rw [hn] at hx
    simp at hx
    rcases hx with rfl | rfl | rfl
    · exact hG.dlo
    · exact h.lo
    · exact hG.rlo
  | false =>
    rw [hn] at hx
    simp at hx
    rcases hx with rfl | rfl | rfl | rfl
    · exact hG.dlo
    · exact h.lo
    · exact hG.rlo
    · exact (h.buf hn).2.2.2.1
theorem own_next {G : Cfg} {L L' : Lay} {w w' : World} (s : Step G L w L' w') : ∀ x ∈ own G L', x ∈ own G L ∨ w.heap.size ≤ x := by
  intro x hx
  unfold own at hx ⊢
  cases hn : L.nb with
  | false =>
    obtain ⟨h1, h2⟩ := s.nB hn
    rw [h1] at hx
    simp at hx ⊢
    rcases hx with rfl | rfl | rfl | rfl
    · exact .inl (.inl rfl)
    · rcases s.nE with e | e
      · exact .inl (.inr (.inl e))
      · exact .inr e
    · exact .inl (.inr (.inr (.inl rfl)))
    · exact .inl (.inr (.inr (.inr h2)))
  | true =>
    cases hn' : L'.nb with
    | true =>
      rw [hn'] at hx
      simp at hx ⊢
      rcases hx with rfl | rfl | rfl
      · exact .inl (.inl rfl)
      · rcases s.nE with e | e
        · exact .inl (.inr (.inl e))
        · exact .inr e
      · exact .inl (.inr (.inr rfl))
    | false =>
      have h2 := s.nB' hn hn'
      rw [hn'] at hx
      simp at hx ⊢
      rcases hx with rfl | rfl | rfl | rfl
      · exact .inl (.inl rfl)
      · rcases s.nE with e | e
        · exact .inl (.inr (.inl e))
        · exact .inr e
      · exact .inl (.inr (.inr rfl))
      · exact .inr h2
theorem Step.trans {G : Cfg} {L L1 L2 : Lay} {w w1 w2 : World} (a : Step G L w L1 w1) (b : Step G L1 w1 L2 w2) : Step G L w L2 w2 := by
  have hs := a.but.size
  refine ⟨a.but.join b.but (fun _ e => e) (fun x hx hlt => ?_), fun h => ?_, fun h h2 => ?_, ?_⟩
  · rcases own_next a x hx with e | e
    · exact e
    · omega
  · obtain ⟨h1, h2⟩ := a.nB h
    obtain ⟨h3, h4⟩ := b.nB h1
    exact ⟨h3, h4.trans h2⟩
  · cases hn : L1.nb with
    | true => have := b.nB' hn h2; omega
    | false =>
      have h1 := a.nB' h hn
      have := (b.nB hn).2
      omega
  · rcases b.nE with e | e
    · rcases a.nE with f | f
      · exact .inl (e.trans f)
      · exact .inr (by omega)
    · exact .inr (by omega)
theorem Go.refl (G : Cfg) (L : Lay) (w : World) : Go G L w L w :=
  ⟨⟨But.refl _ _, fun h => ⟨h, rfl⟩, fun h h2 => (by rw [h] at h2; cases h2), .inl rfl⟩, fun _ => ⟨Nat.le_refl _, fun _ _ => rfl⟩, fun _ _ => rfl, fun _ => Nat.le_refl _⟩
theorem mem_own {G : Cfg} {L : Lay} {x : Nat} : x ∈ own G L ↔ x = G.D ∨ x = L.E ∨ x = G.R ∨ (L.nb = false ∧ x = L.B) := by
  unfold own
  cases L.nb <;> simp
/-- The escape buffer's block is another one behind a step that moved it. -/
theorem esc_out {G : Cfg} {L L1 : Lay} {w w1 : World} (hL : DL G L w) (a : Step G L w L1 w1) (e1 : L1.E ≠ L.E) : L.E ∉ own G L1 := by
  have hlt := hL.esc.lt
  have hf : w.heap.size ≤ L1.E := by
    rcases a.nE with e | e
    · exact absurd e e1
    · exact e
  rw [mem_own]
  rintro (e | e | e | ⟨hn, e⟩)
  · exact hL.DE e.symm
  · exact e1 e.symm
  · exact hL.RE e.symm
  · cases hb : L.nb with
    | true => have := a.nB' hb hn; omega
    | false =>
      have h1 := (a.nB hb).2
      exact (hL.buf hb).2.2.1 (by rw [← h1]; exact e.symm)
theorem Go.trans {G : Cfg} {L L1 L2 : Lay} {w w1 w2 : World} (hL : DL G L w) (a : Go G L w L1 w1) (b : Go G L1 w1 L2 w2) : Go G L w L2 w2 := by
  refine ⟨a.toStep.trans b.toStep, fun h => ?_, fun j hj => ?_, fun e => ?_⟩
  · obtain ⟨h1, h2⟩ := a.nB h
    obtain ⟨h3, h4⟩ := a.kB h
    obtain ⟨h5, h6⟩ := b.kB h1
    refine ⟨by omega, fun j hj => ?_⟩
    have := h6 j (by omega)
    rw [h2] at this
    exact this.trans (h4 j hj)
  · by_cases e1 : L1.E = L.E
    · have := b.kE j (by have := a.kE' e1; omega)
      rw [e1] at this
      exact this.trans (a.kE j hj)
    · have hlt := hL.esc.lt
      exact Eq.trans (b.but.cell (p := ⟨L.E, j, none⟩) (by have := a.but.size; show L.E < _; omega) (esc_out hL a.toStep e1)) (a.kE j hj)
  · have hlt := hL.esc.lt
    have hs := a.but.size
    by_cases e1 : L1.E = L.E
    · exact Nat.le_trans (a.kE' e1) (b.kE' (by rw [e1]; exact e))
    · rcases a.nE with f | f
      · exact absurd f e1
      · rcases b.nE with g | g
        · omega
        · omega
/-- Bytes that a slice has, and that a step of the decoder leaves. -/
structure Held (G : Cfg) (L : Lay) (w : World) (a : Option Addr) (l : List UInt8) : Prop where
  bytes : Bs w a l
  loc : ∀ A off, a = some ⟨A, off, none⟩ → A < w.heap.size ∧ ((L.nb = false ∧ A = L.B ∧ off + l.length ≤ L.len) ∨ (A = L.E ∧ off + l.length ≤ L.esc.length) ∨ A ∉ own G L)
theorem Held.go {G : Cfg} {L L' : Lay} {w w' : World} {a : Option Addr} {l : List UInt8} (hL : DL G L w) (h : Held G L w a l) (s : Go G L w L' w') : Held G L' w' a l := by
  have hs := s.but.size
  rcases h.bytes with ⟨rfl, rfl⟩ | ⟨A, off, rfl, hc⟩
  · exact ⟨.inl ⟨rfl, rfl⟩, fun A off e => by cases e⟩
  · obtain ⟨hlt, hloc⟩ := h.loc A off rfl
    have keep : (∀ j x, l[j]? = some x → w'.cell? ⟨A, off + j, none⟩ = w.cell? ⟨A, off + j, none⟩) ∧ ((L'.nb = false ∧ A = L'.B ∧ off + l.length ≤ L'.len) ∨ (A = L'.E ∧ off + l.length ≤ L'.esc.length) ∨ A ∉ own G L') := by
      rcases hloc with ⟨h1, h2, h3⟩ | ⟨h2, h3⟩ | h2
      · obtain ⟨k1, k2⟩ := s.kB h1
        obtain ⟨n1, n2⟩ := s.nB h1
        subst h2
        refine ⟨fun j x hj => k2 _ (by have := (List.getElem?_eq_some_iff.1 hj).1; omega), .inl ⟨n1, n2.symm, by omega⟩⟩
      · subst h2
        refine ⟨fun j x hj => s.kE _ (by have := (List.getElem?_eq_some_iff.1 hj).1; omega), ?_⟩
        by_cases e1 : L'.E = L.E
        · exact .inr (.inl ⟨e1.symm, by have := s.kE' e1; omega⟩)
        · exact .inr (.inr (esc_out hL s.toStep e1))
      · refine ⟨fun j x hj => s.but.cell (p := ⟨A, off + j, none⟩) hlt h2, .inr (.inr fun hx => ?_)⟩
        rcases own_next s.toStep A hx with e | e
        · exact h2 e
        · omega
    refine ⟨.inr ⟨A, off, rfl, fun j x hj => (keep.1 j x hj).trans (hc j x hj)⟩, fun A' off' e => ?_⟩
    cases e
    exact ⟨by omega, keep.2⟩
/-- Something of one's own stays as it is. -/
theorem Step.keep {G : Cfg} {L L' : Lay} {w w' : World} (s : Step G L w L' w') {X : Nat} {l : List Value} {T : TypeId} (h : Rw w X l T) (hn : X ∉ own G L) : Rw w' X l T ∧ X ∉ own G L' :=
  ⟨Rw.but h s.but hn, fun hx => by
    rcases own_next s X hx with e | e
    · exact hn e
    · have := Rw.lt h; omega⟩
theorem DL.drewN {G : Cfg} {L : Lay} {w : World} (h : DL G L w) (n : Nat) : DL G L (w.drewN n) := by
  have hb : But [] w (w.drewN n) := (But.refl [] w).drewN
  exact ⟨h.row, fun hn => ⟨(h.buf hn).1.but hb (by simp), (h.buf hn).2⟩, h.nbz, h.blen, h.r01, h.r1l, h.esc.but hb (by simp), h.escl, h.DE, h.RE, h.lo, h.all, fun hc => ⟨(h.more hc).1, let ⟨a, ha⟩ := (h.more hc).2.1; ⟨a, ha.row, ha.few, ha.le⟩, (h.more hc).2.2⟩,
    h.bel.trans ((hb.toBelow).mono h.bel.size), h.line, Nat.lt_of_lt_of_le h.rlt hb.size⟩
theorem Go.drewN (G : Cfg) (L : Lay) (w : World) (n : Nat) : Go G L w L (w.drewN n) :=
  ⟨⟨(But.refl _ w).drewN, fun h => ⟨h, rfl⟩, fun h h2 => (by rw [h] at h2; cases h2), .inl rfl⟩, fun _ => ⟨Nat.le_refl _, fun _ _ => rfl⟩, fun _ _ => rfl, fun _ => Nat.le_refl _⟩
/-- A store into one of the decoder's cells. -/
theorem DL.put {G : Cfg} {L L' : Lay} {w : World} (h : DL G L w) (j : Nat) (v : Value) (hc : L'.cells = L.cells.set j v)
    (hsame : L'.rd = L.rd ∧ L'.nb = L.nb ∧ L'.B = L.B ∧ L'.cap = L.cap ∧ L'.len = L.len ∧ L'.base = L.base ∧ L'.cm = L.cm ∧ L'.E = L.E ∧ L'.ecap = L.ecap ∧ L'.esc = L.esc)
    (hz : L'.nb = true → L'.r1 = 0) (h01 : L'.r0 ≤ L'.r1) (h1l : L'.r1 ≤ L'.len) (hl : L'.line ≤ 1000000) (hG : Base G) :
    DL G L' (w.setCell ⟨G.D, j, none⟩ v) ∧ Go G L w L' (w.setCell ⟨G.D, j, none⟩ v) := by
  obtain ⟨e1, e2, e3, e4, e5, e6, e7, e8, e9, e10⟩ := hsame
  have hb : But [G.D] w (w.setCell ⟨G.D, j, none⟩ v) := (But.refl _ w).setCell (Or.inl (by simp)) _
  refine ⟨⟨?_, ?_, ?_, ?_, h01, h1l, ?_, by rw [e10]; exact h.escl, by rw [e8]; exact h.DE, by rw [e8]; exact h.RE, by rw [e8]; exact h.lo, ?_, ?_, ?_, hl, Nat.lt_of_lt_of_le h.rlt hb.size⟩, ⟨⟨hb.mono (fun k hk => by rw [mem_own]; simp at hk; exact .inl hk), ?_, ?_, .inl e8⟩, ?_, ?_, ?_⟩⟩
  · rw [hc]; exact Rw.set h.row j v
  · intro hn
    rw [e2] at hn
    obtain ⟨b1, b2, b3, b4, b5⟩ := h.buf hn
    rw [e3, e4, e5, e6, e8]
    exact ⟨b1.but hb (by simpa using fun e => b2 e.symm), b2, b3, b4, b5⟩
  · intro hn
    have h0 := h.nbz (by rw [← e2]; exact hn)
    rw [e5, e6, e7]
    exact ⟨h0.1, hz hn, h0.2.2⟩
  · rw [e5, e6]; exact h.blen
  · rw [e8, e9, e10]; exact h.esc.but hb (by simpa using fun e => h.DE e.symm)
  · rw [e5, e6, e7]; exact h.all
  · intro hcm
    rw [e7] at hcm
    obtain ⟨m1, ⟨a, ha⟩, m3, m4⟩ := h.more hcm
    rw [e1, e2, e4, e5, e6]
    exact ⟨m1, ⟨a, Rw.but ha.row hb (by simpa using m3), ha.few, ha.le⟩, m3, m4⟩
  · exact h.bel.trans ((hb.below G.w0.heap.size h.bel.size (by simpa using hG.dlo)))
  · intro hn
    exact ⟨by rw [e2]; exact hn, e3⟩
  · intro hn hn'
    rw [e2, hn] at hn'
    cases hn'
  · intro hn
    refine ⟨by omega, fun q hq => hb.cell (p := ⟨L.B, q, none⟩) (h.buf hn).1.lt (by simpa using fun e => (h.buf hn).2.1 e.symm)⟩
  · intro q hq
    exact hb.cell (p := ⟨L.E, q, none⟩) h.esc.lt (by simpa using fun e => h.DE e.symm)
  · intro _
    rw [e10]; exact Nat.le_refl _
/-- The byte at a place that the buffer has. -/
theorem DL.byte {G : Cfg} {L : Lay} {w : World} (h : DL G L w) (hn : L.nb = false) {j : Nat} (hj : j < L.len) : w.cell? ⟨L.B, j, none⟩ = some (.int .u8 ((G.T.getD (L.base + j) 0).toNat : Int)) := by
  have hb := h.blen
  have hlt : L.base + j < G.T.length := by omega
  refine (h.buf hn).1.bytes j _ ?_
  rw [List.getElem?_take, if_pos hj, List.getElem?_drop, List.getD_eq_getElem?_getD, List.getElem?_eq_getElem hlt]
  rfl
/-- What a step leaves of a decoder's lay. -/
structure Mv (L L' : Lay) (n : Nat) : Prop where
  base : L'.base = L.base
  r0 : L'.r0 = L.r0
  r1 : L'.r1 = L.r1 + n
  nb : L'.nb = false
  sec : L'.sec = L.sec
  sk : L'.sk = L.sk
theorem Mv.pos {L L' : Lay} {n : Nat} (h : Mv L L' n) : L'.pos = L.pos + n := by unfold Lay.pos; rw [h.base, h.r1]; omega
theorem Mv.trans {L L1 L2 : Lay} {n m : Nat} (a : Mv L L1 n) (b : Mv L1 L2 m) : Mv L L2 (n + m) :=
  ⟨b.base.trans a.base, b.r0.trans a.r0, by rw [b.r1, a.r1]; omega, b.nb, b.sec.trans a.sec, b.sk.trans a.sk⟩
/-- There are n bytes ahead in the buffer, or all that there are. -/
def Av (G : Cfg) (L : Lay) (n : Nat) : Prop := L.nb = false ∧ min (L.pos + n) G.T.length ≤ L.base + L.len
theorem Av.mono {G : Cfg} {L : Lay} {n m : Nat} (h : Av G L n) (hm : m ≤ n) : Av G L m := ⟨h.1, by have := h.2; omega⟩
end Go.Proofs.YtlcbcgillekphaaGreatDoor.dec
namespace Go.Proofs.YtlcbcgillekphaaGreatDoor.dec
open Go.RowKit Mem rw
set_option linter.unusedVariables false

theorem str_size (l : List UInt8) : (⟨l.toArray⟩ : ByteArray).size = l.length := by simp [ByteArray.size]
/-- copy of a string into a row of whatever length. -/
theorem copy_str2 (w : World) (dT sT ty elem : TypeId) (b o q dCap m : Nat) (t : ByteArray) (hm : min t.size q = m)
    (hu : Tryz.prog.underlying dT = some (.slice elem)) (hz : ∀ w, (Go.sizeOf elem).run Tryz.prog w = .ok 1 w)
    (hc : ∀ j, j < q → (w.cell? ⟨b, o + j, none⟩).isSome = true) (hf : ∀ j, j < q → w.frozen? ⟨b, o + j, none⟩ = false) :
    (Builtin.copy_ #[dT, sT] ty #[.slice (some ⟨b, o, none⟩) q dCap, .string t]).run Tryz.prog w = .ok (goInt m) (w.setCells b o ((t.data.toList.take m).map fun x => Value.int .u8 (x.toNat : Int))) := by
  have hmin : Nat.min t.size q = m := hm
  have hl : ((t.data.toList.take m).map fun x => Value.int .u8 (x.toNat : Int)).length = m := by
    rw [List.length_map, List.length_take, ← Lib.size_eq]; omega
  have hst := run_storeCells_cells (P := Tryz.prog) b o ((t.data.toList.take m).map fun x => Value.int .u8 (x.toNat : Int)) 0 w (by rw [hl]; intro j hj; simpa using hc j (by omega)) (by rw [hl]; intro j hj; simpa using hf j (by omega)) (by
    intro v hv
    obtain ⟨x, _, rfl⟩ := List.mem_map.1 hv
    rfl)
  simp [Builtin.copy_, run_underlying hu, Builtin.lenOf, Builtin.firstCells, hz, hmin]
  rw [← List.map_take, hst]
  rfl

/-- What a reader's Read leaves: m bytes more in the row, m fewer in the reader. -/
structure Red (G : Cfg) (w w' : World) (B cap : Nat) (l left : List UInt8) (at_ m at' : Nat) : Prop where
  m1 : m ≤ left.length
  m2 : m ≤ cap - l.length
  buf : BufAt w' B (l ++ left.take m) cap
  row : Rw w' G.R [.string ⟨(left.drop m).toArray⟩, .slice G.sa G.zs.length G.sc, .int .i64 at', .bool false] 89
  but : But [G.R, B] w w'
  all : G.zs = [] → at' = at_ ∧ m = min left.length (cap - l.length)
  some : ∀ z, G.zs[at_ % G.zs.length]? = some z → at' = at_ + 1 ∧ m = min (min z.toNat (cap - l.length)) left.length

theorem read_end (G : Cfg) (B off n c : Nat) (at_ : Nat) (w : World) (hr : Rw w G.R [.string ⟨([] : List UInt8).toArray⟩, .slice G.sa G.zs.length G.sc, .int .i64 at_, .bool false] 89) (ev : Value) (he : w.cell? ⟨1, 0, none⟩ = some ev) :
    Calls Tryz.prog 127 #[.pointer (some ⟨G.R, 0, none⟩), .slice (some ⟨B, off, none⟩) n c] w fun e w' => e = .returned (.tuple #[.int .i64 0, ev]) ∧ ∃ q, w.drewN q = w' := by
  have c0 := Rw.cell hr 0
  have c3 := Rw.cell hr 3
  simp only [List.getElem?_cons_zero, List.getElem?_cons_succ] at c0 c3
  clear hr
  go_enter Tryz.func127, Tryz.ntmps127
  go_wp2
  go_quiet (fail)
  go_wp2
  go_ret2
  exact ⟨rfl, _, rfl⟩
theorem byteCells_take (t : ByteArray) (m : Nat) : ((t.data.toList.take m).map fun x => Value.int .u8 (x.toNat : Int)) = Lib.byteCells (t.data.toList.take m) := rfl

/-- The walk's last part, alike in both: the copy, what is left, the count. -/
theorem red_mk (G : Cfg) (B cap : Nat) (l left : List UInt8) (at_ at' m : Nat) (w w1 : World) (hR : G.R ≠ B) (hb : But [G.R] w w1) (hm1 : m ≤ left.length) (hm2 : m ≤ cap - l.length)
    (hr : Rw w1 G.R [.string ⟨left.toArray⟩, .slice G.sa G.zs.length G.sc, .int .i64 at', .bool false] 89) (hB : BufAt w B l cap)
    (all : G.zs = [] → at' = at_ ∧ m = min left.length (cap - l.length)) (some : ∀ z, G.zs[at_ % G.zs.length]? = some z → at' = at_ + 1 ∧ m = min (min z.toNat (cap - l.length)) left.length) :
    Red G w ((w1.setCells B l.length (Lib.byteCells (left.take m))).setCell ⟨G.R, 0, none⟩ (.string ⟨(left.drop m).toArray⟩)) B cap l left at_ m at' := by
  have hle := hB.le
  have hB1 := hB.but hb (by simpa using fun e => hR e.symm)
  have hp := hB1.put (left.take m) (by rw [List.length_take]; omega)
  have hb2 : But [G.R] (w1.setCells B l.length (Lib.byteCells (left.take m))) ((w1.setCells B l.length (Lib.byteCells (left.take m))).setCell ⟨G.R, 0, none⟩ (.string ⟨(left.drop m).toArray⟩)) := (But.refl _ _).setCell (Or.inl (by simp)) _
  refine ⟨hm1, hm2, hp.1.but hb2 (by simpa using fun e => hR e.symm), ?_, ?_, all, some⟩
  · exact Rw.set (Rw.but hr hp.2 (by simpa using hR)) 0 (.string ⟨(left.drop m).toArray⟩)
  · exact ((hb.mono (by simp)).trans (hp.2.mono (by simp))).trans (hb2.mono (by simp))


set_option maxRecDepth 100000 in
set_option maxHeartbeats 400000 in
theorem read_all (G : Cfg) (B cap : Nat) (l left : List UInt8) (at_ : Nat) (w : World) (hz : G.zs = []) (hl : left ≠ []) (hlen : left.length ≤ 100000) (hcap : cap ≤ 1000000) (hR : G.R ≠ B)
    (hr : Rw w G.R [.string ⟨left.toArray⟩, .slice G.sa G.zs.length G.sc, .int .i64 at_, .bool false] 89) (hB : BufAt w B l cap) :
    Calls Tryz.prog 127 #[.pointer (some ⟨G.R, 0, none⟩), .slice (some ⟨B, l.length, none⟩) (cap - l.length) (cap - l.length)] w fun e w' => ∃ m at' : Nat, e = .returned (.tuple #[.int .i64 m, .nilIface]) ∧ Hid (Red G w w' B cap l left at_ m at') := by
  have hle := hB.le
  have hzl : G.zs.length = 0 := by rw [hz]; rfl
  obtain ⟨N, hN⟩ : ∃ N, cap - l.length = N := ⟨_, rfl⟩
  obtain ⟨m, hm⟩ : ∃ m, min left.length N = m := ⟨_, rfl⟩
  have hm1 : m ≤ left.length := by omega
  have hm2 : m ≤ N := by omega
  have HM := fun w1 hb hr' => red_mk G B cap l left at_ at_ m w w1 hR hb hm1 (by omega) hr' hB (fun _ => ⟨rfl, by rw [hN, hm]⟩) (fun z h => by rw [hz] at h; simp at h)
  obtain ⟨t, ht⟩ : ∃ t : ByteArray, (⟨left.toArray⟩ : ByteArray) = t := ⟨_, rfl⟩
  have hts : t.size = left.length := by rw [← ht]; exact str_size left
  have htd : t.data.toList = left := by rw [← ht]
  have hpos : 0 < left.length := List.length_pos_iff.2 hl
  have hte : t.extract m t.size = ⟨(left.drop m).toArray⟩ := by
    rw [← ht]
    apply ByteArray.ext
    apply Array.ext'
    simp [ByteArray.data_extract, ByteArray.size]
    rw [List.take_of_length_le (by simp)]
  rw [← hte] at HM
  rw [ht] at HM hr
  have hb1 : But [G.R] w w.drew := (But.refl _ _).drew
  have hcp := copy_str2 w.drew 51 9 3 5 B l.length m N m t (by rw [hts]; omega) Tryz.underlying51 (fun _ => by kernel_rfl) (fun j hj => hB.room (l.length + j) (by omega)) (fun j hj => hB.free (l.length + j) (by omega))
  rw [htd] at hcp
  have hmm := HM w.drew hb1 hr
  have hbc : But [B] w.drew (w.drew.setCells B l.length (Lib.byteCells (left.take m))) := (But.refl _ _).setCells (Or.inl (by simp)) _ _
  obtain ⟨W2, hW2⟩ : ∃ W2, w.drew.setCells B l.length (Lib.byteCells (left.take m)) = W2 := ⟨_, rfl⟩
  have hcp2 : _ = Result.ok _ (w.drew.setCells B l.length (Lib.byteCells (left.take m))) := hcp
  rw [hW2] at hcp2 hmm hbc
  have r2 : Rw W2 G.R _ _ := Rw.but (show Rw w.drew G.R _ _ from hr) hbc (by simpa using hR)
  have d0 := Rw.cell r2 0
  have y0 := Rw.fz r2 0
  have c0 := Rw.cell hr 0
  have c1 := Rw.cell hr 1
  have c3 := Rw.cell hr 3
  simp only [List.getElem?_cons_zero, List.getElem?_cons_succ] at c0 c1 c3 d0
  have hmin : min (left.length : Int) (N : Int) = (m : Int) := by omega
  have h0 : ((t.size : Int) == 0) = false := beq_eq_false_iff_ne.2 (by omega)
  have hml : (m : Int) ≤ (t.size : Int) := by omega
  have hm0 : (0 : Int) ≤ (m : Int) := by omega
  have hmN : (m : Int) ≤ (N : Int) := by omega
  rw [← hts] at hmin
  have HMM := Lib.hid hmm
  have HCP := Lib.hid hcp2
  rw [hN]
  rw [hzl] at c1
  clear HM hb1 hcp hcp2 hbc hmm r2 hr hB htd hts ht hte hW2 hm hN hzl hz hm1 hm2
  go_enter Tryz.func127, Tryz.ntmps127
  go_wp2
  refine region_tail 10 (by kernel_rfl) ?_
  simp only [List.take_succ_cons, List.take_zero, List.drop_succ_cons, List.drop_zero]
  repeat still_step
  refine wpStill_nil ?_
  have hcp := HCP.out
  go_wp2
  go_ret2
  exact ⟨m, at_, rfl, HMM⟩

set_option maxRecDepth 100000 in
set_option maxHeartbeats 1000000 in
theorem read_some (G : Cfg) (B cap : Nat) (l left : List UInt8) (at_ : Nat) (w : World) (z : Int) (A off : Nat) (hz : G.zs[at_ % G.zs.length]? = some z) (hz2 : z ≤ 9223372036854775807) (hsa : G.sa = some ⟨A, off, none⟩) (hzc : w.cell? ⟨A, off + at_ % G.zs.length, none⟩ = some (.int .i64 z))
    (hat : at_ ≤ 1000000) (hAR : A ≠ G.R) (hn : G.zs.length ≤ 100) (hl : left ≠ []) (hlen : left.length ≤ 100000) (hcap : cap ≤ 1000000) (hR : G.R ≠ B)
    (hr : Rw w G.R [.string ⟨left.toArray⟩, .slice G.sa G.zs.length G.sc, .int .i64 at_, .bool false] 89) (hB : BufAt w B l cap) :
    Calls Tryz.prog 127 #[.pointer (some ⟨G.R, 0, none⟩), .slice (some ⟨B, l.length, none⟩) (cap - l.length) (cap - l.length)] w fun e w' => ∃ m at' : Nat, e = .returned (.tuple #[.int .i64 m, .nilIface]) ∧ Hid (Red G w w' B cap l left at_ m at') := by
  have hle := hB.le
  have hk := (List.getElem?_eq_some_iff.1 hz).1
  obtain ⟨N, hN⟩ : ∃ N, cap - l.length = N := ⟨_, rfl⟩
  obtain ⟨q, hq⟩ : ∃ q, z.toNat = q := ⟨_, rfl⟩
  obtain ⟨p, hp⟩ : ∃ p, min q N = p := ⟨_, rfl⟩
  obtain ⟨m, hm⟩ : ∃ m, min p left.length = m := ⟨_, rfl⟩
  have hm1 : m ≤ left.length := by omega
  have hm2 : m ≤ N := by omega
  have HM := fun w1 hb hr' => red_mk G B cap l left at_ (at_ + 1) m w w1 hR hb hm1 (by omega) hr' hB (fun h => by rw [h] at hz; simp at hz) (fun z' h => by rw [hz] at h; cases h; exact ⟨rfl, by rw [hN, hq, hp, hm]⟩)
  obtain ⟨t, ht⟩ : ∃ t : ByteArray, (⟨left.toArray⟩ : ByteArray) = t := ⟨_, rfl⟩
  have hts : t.size = left.length := by rw [← ht]; exact str_size left
  have htd : t.data.toList = left := by rw [← ht]
  have hpos : 0 < left.length := List.length_pos_iff.2 hl
  have hte : t.extract m t.size = ⟨(left.drop m).toArray⟩ := by
    rw [← ht]
    apply ByteArray.ext
    apply Array.ext'
    simp [ByteArray.data_extract, ByteArray.size]
    rw [List.take_of_length_le (by simp)]
  rw [← hte] at HM
  rw [ht] at HM hr
  rw [hsa] at HM hr
  obtain ⟨n, hnn⟩ : ∃ n, G.zs.length = n := ⟨_, rfl⟩
  rw [hnn] at HM hr hk hzc hn
  obtain ⟨k, hkk⟩ : ∃ k, at_ % n = k := ⟨_, rfl⟩
  rw [hkk] at hzc hk
  have hki : (at_ : Int) % (n : Int) = (k : Int) := by omega
  have hk0 : (0 : Int) ≤ (k : Int) := by omega
  have hkn : (k : Int) < (n : Int) := by omega
  have hn0 : ((n : Int) == 0) = false := beq_eq_false_iff_ne.2 (by omega)
  have hnp : (0 : Int) < (n : Int) := by omega
  have hmx : max (0 : Int) z = (q : Int) := by omega
  have HW : Hid (∀ j, But [G.R] w ((w.drewN j).setCell ⟨G.R, 2, none⟩ (.int .i64 ((at_ : Int) + 1)))) := Lib.hid fun j => ((But.refl _ w).drewN).setCell (Or.inl (by simp)) _
  have HR0 := Lib.hid hr
  have HB0 := Lib.hid hB
  have HMH := Lib.hid HM
  have c0 := Rw.cell hr 0
  have c1 := Rw.cell hr 1
  have c2 := Rw.cell hr 2
  have c3 := Rw.cell hr 3
  have z2 := Rw.fz hr 2
  simp only [List.getElem?_cons_zero, List.getElem?_cons_succ] at c0 c1 c2 c3
  have h0 : ((t.size : Int) == 0) = false := beq_eq_false_iff_ne.2 (by omega)
  have hats : (at_ : Int) ≤ 1000000 := by omega
  have hmin : min (q : Int) (N : Int) = (p : Int) := by omega
  have hpN : (p : Int) ≤ (N : Int) := by omega
  have hp0 : (0 : Int) ≤ (p : Int) := by omega
  have hml : (m : Int) ≤ (t.size : Int) := by omega
  have hm0 : (0 : Int) ≤ (m : Int) := by omega
  have HF := Lib.hid (show min t.size p = m ∧ l.length + p ≤ cap ∧ t.data.toList = left from ⟨by omega, by omega, htd⟩)
  rw [hN]
  clear HM hr hB htd hts ht hte hm hp hq hN hkk hnn hz hsa hm1 hm2 hk
  go_enter Tryz.func127, Tryz.ntmps127
  go_wp2
  go_quiet (fail)
  go_wp2
  have hw1 := HW.out nq
  have r1 : Rw ((w.drewN nq).setCell ⟨G.R, 2, none⟩ (.int .i64 ((at_ : Int) + 1))) G.R [.string t, .slice (some ⟨A, off, none⟩) n G.sc, .int .i64 ((at_ : Int) + 1), .bool false] 89 := Rw.set (show Rw (w.drewN nq) G.R _ _ from HR0.out) 2 _
  obtain ⟨W1, hW1⟩ : ∃ W1, (w.drewN nq).setCell ⟨G.R, 2, none⟩ (.int .i64 ((at_ : Int) + 1)) = W1 := ⟨_, rfl⟩
  rw [hW1] at hw1 r1 ⊢
  clear hW1 HW
  obtain ⟨F1, F2, F3⟩ := HF.out
  have hB1 := HB0.out.but hw1 (by simpa using fun e => hR e.symm)
  have hcp := copy_str2 W1.drew 51 9 3 5 B l.length p N m t F1 Tryz.underlying51 (fun _ => by kernel_rfl) (fun j hj => hB1.room (l.length + j) (by omega)) (fun j hj => hB1.free (l.length + j) (by omega))
  rw [F3] at hcp
  have hmm := HMH.out W1.drew hw1.drew (by simpa using (show Rw W1.drew G.R _ _ from r1))
  have hbc : But [B] W1.drew (W1.drew.setCells B l.length (Lib.byteCells (left.take m))) := (But.refl _ _).setCells (Or.inl (by simp)) _ _
  obtain ⟨W2, hW2⟩ : ∃ W2, W1.drew.setCells B l.length (Lib.byteCells (left.take m)) = W2 := ⟨_, rfl⟩
  have hcp2 : _ = Result.ok _ (W1.drew.setCells B l.length (Lib.byteCells (left.take m))) := hcp
  rw [hW2] at hcp2 hmm hbc
  have r2 : Rw W2 G.R _ _ := Rw.but (show Rw W1.drew G.R _ _ from r1) hbc (by simpa using hR)
  have d0 := Rw.cell r2 0
  have y0 := Rw.fz r2 0
  have e0 := Rw.cell r1 0
  simp only [List.getElem?_cons_zero] at d0 e0
  have HMM := Lib.hid hmm
  have HCP := Lib.hid hcp2
  clear hw1 r1 F1 F2 F3 hB1 hcp hmm hbc hW2 hcp2 r2 HF HMH HB0 HR0 c0 c1 c2 c3 z2 hzc hmx hki
  refine region_tail 10 (by kernel_rfl) ?_
  simp only [List.take_succ_cons, List.take_zero, List.drop_succ_cons, List.drop_zero]
  repeat still_step
  refine wpStill_nil ?_
  have hcp := HCP.out
  go_wp2
  go_ret2
  exact ⟨m, at_ + 1, rfl, HMM⟩
end Go.Proofs.YtlcbcgillekphaaGreatDoor.dec
namespace Go.Proofs.YtlcbcgillekphaaGreatDoor.dec
open Go.RowKit Mem rw
set_option linter.unusedVariables false

theorem method_read (a : Addr) (w : World) : (method 276 53 (.pointer (some a)) "Read").run Tryz.prog w = .ok (127, .pointer (some a)) w := by kernel_rfl
theorem nil_read (a : Addr) (w : World) : (nilAhead 276 53 (.pointer (some a)) "Read").run Tryz.prog w = .ok (some false) w := by kernel_rfl

/-- What Read gives, in either way. -/
theorem read_any (G : Cfg) (hG : Base G) (B cap : Nat) (l left : List UInt8) (at_ : Nat) (w : World) (hlen : left.length ≤ 4000) (hcap : cap ≤ 1000000) (hR : G.R ≠ B) (hl : left ≠ [])
    (hr : Rd G w left at_) (hbel : Below G.w0.heap.size G.w0 w) (hB : BufAt w B l cap) :
    Calls Tryz.prog 127 #[.pointer (some ⟨G.R, 0, none⟩), .slice (some ⟨B, l.length, none⟩) (cap - l.length) (cap - l.length)] w fun e w' => ∃ m at' : Nat, e = .returned (.tuple #[.int .i64 m, .nilIface]) ∧ Hid (Red G w w' B cap l left at_ m at') := by
  by_cases hz : G.zs = []
  · exact read_all G B cap l left at_ w hz hl (by omega) hcap hR hr.row hB
  · have hlz : 0 < G.zs.length := List.length_pos_iff.2 hz
    have hk : at_ % G.zs.length < G.zs.length := Nat.mod_lt _ hlz
    have hzz : G.zs[at_ % G.zs.length]? = some (G.zs[at_ % G.zs.length]'hk) := List.getElem?_eq_getElem hk
    obtain ⟨A, off, hsa, hc⟩ := hG.sizes _ _ hzz
    have hlt : A < G.w0.heap.size := block_lt_of_cell hc
    exact read_some G B cap l left at_ w _ A off hzz (hG.big _ (List.getElem_mem hk)) hsa ((hbel.cell (p := ⟨A, off + _, none⟩) hlt).trans hc) (by have := hr.le; omega) (by have := hG.rlo; omega) hG.few hl (by omega) hcap hR hr.row hB

theorem dist_lt (j0 n a : Nat) (hj : j0 < n) : dist j0 n a < n := by
  unfold dist
  have := Nat.mod_lt a (show 0 < n by omega)
  split <;> omega
theorem dist_step (j0 n a : Nat) (hj : j0 < n) (hne : a % n ≠ j0) : dist j0 n (a + 1) + 1 = dist j0 n a := by
  have h0 : 0 < n := by omega
  have ha := Nat.mod_lt a h0
  have hd : (a + 1) % n = if a % n + 1 = n then 0 else a % n + 1 := by
    have h1 : (a + 1) % n = (a % n + 1) % n := by simp [Nat.add_mod]
    rw [h1]
    split
    · rename_i e; rw [e, Nat.mod_self]
    · rw [Nat.mod_eq_of_lt (by omega)]
  unfold dist
  rw [hd]
  split <;> split <;> (try split) <;> omega
/-- The first size of more than nothing. -/
def j0 (G : Cfg) : Nat := G.zs.findIdx fun z => decide (0 < z)
theorem j0_spec (G : Cfg) (hG : Base G) (hz : G.zs ≠ []) : j0 G < G.zs.length ∧ ∀ z, G.zs[j0 G]? = some z → 0 < z := by
  rcases hG.pos with h | ⟨j, z, hj, hp⟩
  · exact absurd h hz
  · have hlt : j0 G < G.zs.length := List.findIdx_lt_length_of_exists ⟨z, List.mem_of_getElem? hj, by simpa using hp⟩
    refine ⟨hlt, fun z' hz' => ?_⟩
    have := List.findIdx_getElem (p := fun z => decide (0 < z)) (xs := G.zs) (w := hlt)
    rw [List.getElem?_eq_getElem hlt] at hz'
    cases hz'
    exact of_decide_eq_true this
def rank (G : Cfg) (n at_ : Nat) : Nat := n * (G.zs.length + 1) + dist (j0 G) G.zs.length at_
theorem rd_next {G : Cfg} (hG : Base G) {w w' : World} {B cap : Nat} {l left : List UInt8} {at_ m at' : Nat} (h : Rd G w left at_) (r : Red G w w' B cap l left at_ m at') (hl : left ≠ []) (hroom : l.length < cap) :
    Rd G w' (left.drop m) at' ∧ rank G (left.length - m) at' < rank G left.length at_ := by
  have hpos : 0 < left.length := List.length_pos_iff.2 hl
  have hle := h.le
  have hdl : (left.drop m).length = left.length - m := List.length_drop
  by_cases hz : G.zs = []
  · obtain ⟨e1, e2⟩ := r.all hz
    have hzl : G.zs.length = 0 := by rw [hz]; rfl
    have hd : ∀ a, dist (j0 G) 0 a = 0 ∨ a % 0 ≤ j0 G := fun a => by unfold dist; split <;> omega
    subst e1
    refine ⟨⟨r.row, h.few, ?_⟩, ?_⟩
    · rw [hdl, hzl] at *
      have := Nat.mul_zero (left.length - m)
      omega
    · unfold rank
      rw [hzl]
      have : left.length - m < left.length := by omega
      omega
  · obtain ⟨hj, hjz⟩ := j0_spec G hG hz
    have hlz : 0 < G.zs.length := List.length_pos_iff.2 hz
    have hk : at_ % G.zs.length < G.zs.length := Nat.mod_lt _ hlz
    have hzz : G.zs[at_ % G.zs.length]? = some (G.zs[at_ % G.zs.length]'hk) := List.getElem?_eq_getElem hk
    obtain ⟨e1, e2⟩ := r.some _ hzz
    have d1 := dist_lt (j0 G) G.zs.length (at_ + 1) hj
    have hle' : at_ + left.length * G.zs.length + dist (j0 G) G.zs.length at_ ≤ 1000000 := hle
    subst e1
    by_cases hm : m = 0
    · have hne : at_ % G.zs.length ≠ j0 G := by
        intro e
        have hz0 := hjz (G.zs[at_ % G.zs.length]'hk) (by rw [← e]; exact hzz)
        omega
      have ds := dist_step (j0 G) G.zs.length at_ hj hne
      subst hm
      refine ⟨⟨r.row, fun e => absurd e hz, ?_⟩, ?_⟩
      · rw [hdl, Nat.sub_zero]
        show at_ + 1 + left.length * G.zs.length + dist (j0 G) G.zs.length (at_ + 1) ≤ 1000000
        omega
      · unfold rank
        rw [Nat.sub_zero]
        omega
    · obtain ⟨c, hc⟩ : ∃ c, left.length = m + c := ⟨left.length - m, by have := r.m1; omega⟩
      have e3 : left.length - m = c := by omega
      have m1 : G.zs.length ≤ m * G.zs.length := Nat.le_mul_of_pos_left _ (by omega)
      have m2 : (m + c) * G.zs.length = m * G.zs.length + c * G.zs.length := Nat.add_mul ..
      have m3 : (m + c) * (G.zs.length + 1) = (m + c) * G.zs.length + (m + c) := Nat.mul_succ ..
      have m4 : c * (G.zs.length + 1) = c * G.zs.length + c := Nat.mul_succ ..
      refine ⟨⟨r.row, fun e => absurd e hz, ?_⟩, ?_⟩
      · rw [hdl, e3]
        show at_ + 1 + c * G.zs.length + dist (j0 G) G.zs.length (at_ + 1) ≤ 1000000
        rw [hc] at hle'
        omega
      · unfold rank
        rw [e3, hc]
        omega
/-- A measure of what is still to be read. -/
def ms (G : Cfg) (w : World) : Nat :=
  rank G (match w.cell? ⟨G.R, 0, none⟩ with | some (.string s) => s.size | _ => 0) (match w.cell? ⟨G.R, 2, none⟩ with | some (.int _ a) => a.toNat | _ => 0) + (match w.cell? ⟨G.D, 4, none⟩ with | some (.bool false) => 1 | _ => 0)
theorem ms_of {G : Cfg} {L : Lay} {w : World} {left : List UInt8} {at_ : Nat} (h : Rw w G.D L.cells 63) (hr : Rw w G.R [.string ⟨left.toArray⟩, .slice G.sa G.zs.length G.sc, .int .i64 at_, .bool false] 89) :
    ms G w = rank G left.length at_ + if L.cm then 0 else 1 := by
  have c0 := Rw.cell hr 0
  have c2 := Rw.cell hr 2
  have c4 := Rw.cell h 4
  simp only [Lay.cells, List.getElem?_cons_zero, List.getElem?_cons_succ] at c0 c2 c4
  unfold ms
  rw [c0, c2, c4]
  simp only [str_size, Int.toNat_natCast]
  cases L.cm <;> rfl
end Go.Proofs.YtlcbcgillekphaaGreatDoor.dec
