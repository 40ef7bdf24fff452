/-
  Proved: the contracts of the decoder's reset, of advanceToSection (but for the reading away of parts), of consumeLine.
  Conditions: a decoder in memory.
-/
import Derived.Test.YtlcbcgillekphaaGreatDoorDev
namespace Go.Proofs.YtlcbcgillekphaaGreatDoor.dec
open Go.RowKit Mem rw
set_option linter.unusedVariables false
set_option linter.unusedSimpArgs false

theorem buf_none {w : World} {A cap : Nat} {l : List UInt8} (h : BufAt w A l cap) : BufAt w A [] cap := ⟨fun j x hx => by simp at hx, h.room, h.free, Nat.zero_le _, h.lt, h.lim⟩
/-- A decoder whose earlier bytes are let go. -/
def Lay.let (L : Lay) (b n r : Nat) : Lay := { L with base := b, len := n, r0 := r, r1 := r, esc := [] }
theorem DL.rs {G : Cfg} {L : Lay} {w W : World} (h : DL G L w) (hG : Base G) (b n r : Nat) (hb : But (G.D :: if L.nb = true then [] else [L.B]) w W)
    (hrow : Rw W G.D (L.let b n r).cells 63) (hlen : b + n = L.base + L.len) (hpos : b + r = L.base + L.r1) (hbuf : L.nb = false → BufAt W L.B ((G.T.drop b).take n) L.cap) (hnb : L.nb = true → b = 0 ∧ n = 0 ∧ r = 0) :
    DL G (L.let b n r) W ∧ Step G L w (L.let b n r) W := by
  have hbl := h.blen
  have h1l := h.r1l
  refine ⟨⟨hrow, fun hn => ?_, fun e => ?_, ?_, Nat.le_refl _, ?_, ?_, Nat.zero_le _, h.DE, h.RE, h.lo, fun e => ?_, fun e => ?_, ?_, h.line, Nat.lt_of_lt_of_le h.rlt hb.size⟩, ⟨hb.mono (fun k hk => ?_), fun hn => ⟨hn, rfl⟩, fun hn hn' => ?_, .inl rfl⟩⟩
  · change L.nb = false at hn
    obtain ⟨b1, b2, b3, b4, b5⟩ := h.buf hn
    exact ⟨hbuf hn, b2, b3, b4, b5⟩
  · change L.nb = true at e
    obtain ⟨e1, e2, e3⟩ := hnb e
    exact ⟨e2, e3, e1, (h.nbz e).2.2.2⟩
  · show b + n ≤ G.T.length; omega
  · show r ≤ n; omega
  · show BufAt W L.E [] L.ecap
    refine buf_none (h.esc.but hb ?_)
    cases hn : L.nb with
    | true => simpa using h.DE.symm
    | false => simpa using ⟨h.DE.symm, fun e => (h.buf hn).2.2.1 e.symm⟩
  · show b + n = G.T.length
    have := h.all e
    omega
  · obtain ⟨m1, ⟨a, ha⟩, m3, m4⟩ := h.more e
    refine ⟨m1, ⟨a, ?_⟩, m3, m4⟩
    show Rd G W (G.T.drop (b + n)) a
    rw [hlen]
    refine ⟨Rw.but ha.row hb ?_, ha.few, ha.le⟩
    cases hn : L.nb with
    | true => simpa using m3
    | false => simpa using ⟨m3, (h.buf hn).2.2.2.2⟩
  · refine h.bel.trans (hb.below _ h.bel.size fun k hk => ?_)
    cases hn : L.nb with
    | true =>
      rw [hn] at hk
      simp at hk
      rw [hk]; exact hG.dlo
    | false =>
      rw [hn] at hk
      simp at hk
      rcases hk with e | e
      · rw [e]; exact hG.dlo
      · rw [e]; exact (h.buf hn).2.2.2.1
  · rw [mem_own]
    cases hn : L.nb with
    | true =>
      rw [hn] at hk
      simp at hk
      exact .inl hk
    | false =>
      rw [hn] at hk
      simp at hk
      rcases hk with e | e
      · exact .inl e
      · exact .inr (.inr (.inr ⟨rfl, e⟩))
  · change L.nb = false at hn'; rw [hn] at hn'; cases hn'
/-- What reset leaves. -/
structure Rst (L L' : Lay) : Prop where
  pos : L'.pos = L.pos
  frm : L'.frm = L.pos
  sec : L'.sec = L.sec
  sk : L'.sk = L.sk
  line : L'.line = L.line
  esc : L'.esc = []
  nb : L'.nb = L.nb
theorem Rst.of {L : Lay} {b n r : Nat} (hpos : b + r = L.base + L.r1) : Rst L (L.let b n r) := ⟨hpos, hpos, rfl, rfl, rfl, rfl, rfl⟩
def RsOut (G : Cfg) (L : Lay) (w : World) (e : Ending) (w' : World) : Prop :=
  e = .returned (.tuple #[]) ∧ Hid (∃ L', DL G L' w' ∧ Step G L w L' w' ∧ Rst L L')
/-- copy of bytes of a row to another row's beginning. -/
theorem copy_row (w : World) (P o k c B p m c2 q : Nat) (y : List UInt8) (hq : min k m = q) (hy : ∀ j x, y[j]? = some x → w.cell? ⟨B, p + j, none⟩ = some (.int .u8 (x.toNat : Int))) (hm : y.length = m)
    (hc : ∀ j, j < k → (w.cell? ⟨P, o + j, none⟩).isSome = true) (hf : ∀ j, j < k → w.frozen? ⟨P, o + j, none⟩ = false) (ty : TypeId) :
    (Builtin.copy_ #[51, 51] ty #[.slice (some ⟨P, o, none⟩) k c, .slice (some ⟨B, p, none⟩) m c2]).run Tryz.prog w = .ok (goInt q) (w.setCells P o (Lib.byteCells (y.take q))) := by
  have hmin : Nat.min m k = q := by show min m k = q; omega
  have hl : (Lib.byteCells (y.take q)).length = q := by rw [Lib.byteCells_length, List.length_take]; omega
  have hz : ∀ w : World, (Go.sizeOf 5).run Tryz.prog w = .ok 1 w := fun _ => by kernel_rfl
  have hfc := run_firstCells_some (P := Tryz.prog) w 1 q ⟨B, p, none⟩ m c2 (Lib.byteCells (y.take q)) (by rw [hl, Nat.mul_one]) (fun j v hv => by
    simp only [Lib.byteCells, List.getElem?_map, Option.map_eq_some_iff] at hv
    obtain ⟨x, hx, rfl⟩ := hv
    rw [Addr.add_lit]
    refine hy j x ?_
    rw [List.getElem?_take] at hx
    split at hx
    · exact hx
    · cases hx)
  have hst := run_storeCells_cells (P := Tryz.prog) P o (Lib.byteCells (y.take q)) 0 w (by rw [hl]; intro j hj; simpa using hc j (by omega)) (by rw [hl]; intro j hj; simpa using hf j (by omega)) (by
    intro v hv
    obtain ⟨x, _, rfl⟩ := List.mem_map.1 hv
    rfl)
  simp [Builtin.copy_, run_underlying Tryz.underlying51, Builtin.lenOf, hz, hmin, hfc]
  rw [hst]
  rfl
theorem let_row {G : Cfg} {L : Lay} {W : World} (h : Rw W G.D L.cells 63) (hn : L.nb = false) (b n r : Nat) (v1 v3 v2 v7 : Value) (h1 : v1 = .slice (some ⟨L.B, 0, none⟩) n L.cap) (h3 : v3 = .int .i64 r) (h2 : v2 = .int .i64 r) (h7 : v7 = .slice (some ⟨L.E, 0, none⟩) 0 L.ecap) :
    Rw ((((W.setCell ⟨G.D, 1, none⟩ v1).setCell ⟨G.D, 3, none⟩ v3).setCell ⟨G.D, 2, none⟩ v2).setCell ⟨G.D, 7, none⟩ v7) G.D (L.let b n r).cells 63 := by
  have h5 := Rw.set (Rw.set (Rw.set (Rw.set h 1 v1) 3 v3) 2 v2) 7 v7
  have e : ((((L.cells.set 1 v1).set 3 v3).set 2 v2).set 7 v7) = (L.let b n r).cells := by
    subst h1 h2 h3 h7
    simp [Lay.cells, Lay.let, Lay.bufv, hn]
  rw [e] at h5
  exact h5
theorem let_row2 {G : Cfg} {L : Lay} {W : World} (h : Rw W G.D L.cells 63) (hn : L.nb = false) (b n r : Nat) (v1 v3 v2 v7 : Value) (h1 : v1 = .slice (some ⟨L.B, 0, none⟩) n L.cap) (h3 : v3 = .int .i64 r) (h2 : v2 = .int .i64 r) (h7 : v7 = .slice (some ⟨L.E, 0, none⟩) 0 L.ecap) :
    Rw ((((W.setCell ⟨G.D, 3, none⟩ v3).setCell ⟨G.D, 1, none⟩ v1).setCell ⟨G.D, 2, none⟩ v2).setCell ⟨G.D, 7, none⟩ v7) G.D (L.let b n r).cells 63 := by
  have h5 := Rw.set (Rw.set (Rw.set (Rw.set h 3 v3) 1 v1) 2 v2) 7 v7
  have e : ((((L.cells.set 3 v3).set 1 v1).set 2 v2).set 7 v7) = (L.let b n r).cells := by
    subst h1 h2 h3 h7
    simp [Lay.cells, Lay.let, Lay.bufv, hn]
  rw [e] at h5
  exact h5
theorem hd_in {G : Cfg} {w : World} (l : List Nat) (j : Nat) : (⟨G.D, j, none⟩ : Addr).block ∈ G.D :: l ∨ w.heap.size ≤ (⟨G.D, j, none⟩ : Addr).block := Or.inl (by simp)
set_option maxRecDepth 100000 in
set_option maxHeartbeats 1000000 in
theorem reset50 (G : Cfg) (hG : Base G) (L : Lay) (w : World) (h : DL G L w) :
    Calls Tryz.prog 50 #[.pointer (some ⟨G.D, 0, none⟩)] w (RsOut G L w) := by
  obtain ⟨c0, c1, c2, c3, c4, c5, c6, c7, c8, c9⟩ := h.cells
  have z1 := Rw.fz h.row 1
  have z2 := Rw.fz h.row 2
  have z3 := Rw.fz h.row 3
  have z7 := Rw.fz h.row 7
  have hle := h.lenle hG
  have h1l := h.r1l
  have hD := Rw.lt h.row
  cases hn : L.nb with
  | true =>
    obtain ⟨e1, e2, e3, e4⟩ := h.nbz hn
    have c1n : w.cell? ⟨G.D, 1, none⟩ = some (.slice none 0 0) := by rw [c1]; unfold Lay.bufv; rw [hn]; rfl
    rw [e2] at c3
    have HF : Hid (∀ q, RsOut G L w (.returned (.tuple #[])) (((((w.drewN q).setCell ⟨G.D, 1, none⟩ (.slice none 0 0)).setCell ⟨G.D, 3, none⟩ (.int .i64 0)).setCell ⟨G.D, 2, none⟩ (.int .i64 0)).setCell ⟨G.D, 7, none⟩ (.slice (some ⟨L.E, 0, none⟩) 0 L.ecap))) := Lib.hid fun q => by
      have hb0 : But [] w (w.drewN q) := (But.refl [] w).drewN
      have hb : But (G.D :: if L.nb = true then [] else [L.B]) w (((((w.drewN q).setCell ⟨G.D, 1, none⟩ (.slice none 0 0)).setCell ⟨G.D, 3, none⟩ (.int .i64 0)).setCell ⟨G.D, 2, none⟩ (.int .i64 0)).setCell ⟨G.D, 7, none⟩ (.slice (some ⟨L.E, 0, none⟩) 0 L.ecap)) := (((((hb0.mono (by simp)).setCell (hd_in _ 1) _).setCell (hd_in _ 3) _).setCell (hd_in _ 2) _).setCell (hd_in _ 7) _)
      have h5 := Rw.set (Rw.set (Rw.set (Rw.set (Rw.but h.row hb0 (by simp)) 1 (.slice none 0 0)) 3 (.int .i64 0)) 2 (.int .i64 0)) 7 (.slice (some ⟨L.E, 0, none⟩) 0 L.ecap)
      have e : ((((L.cells.set 1 (.slice none 0 0)).set 3 (.int .i64 0)).set 2 (.int .i64 0)).set 7 (.slice (some ⟨L.E, 0, none⟩) 0 L.ecap)) = (L.let 0 0 0).cells := by
        simp [Lay.cells, Lay.let, Lay.bufv, hn]
      rw [e] at h5
      have := h.rs hG 0 0 0 hb h5 (by omega) (by omega) (fun e => by rw [hn] at e; cases e) (fun _ => ⟨rfl, rfl, rfl⟩)
      exact ⟨rfl, Lib.hid ⟨_, this.1, this.2, Rst.of (by omega)⟩⟩
    clear c1 h hG e1 e2 e3 e4 hn hle h1l
    go_enter Tryz.func50, Tryz.ntmps50
    go_wp2
    go_quiet (fail)
    go_wp2_with fail
    go_end0
    exact HF.out _
  | false =>
    rw [bufv_of hn] at c1
    obtain ⟨B, hB⟩ : ∃ B, L.B = B := ⟨_, rfl⟩
    rw [hB] at c1
    have hBD : ¬ B = G.D := by rw [← hB]; exact fun e => (h.buf hn).2.1 e.symm
    obtain ⟨d, hd⟩ : ∃ d, L.len - L.r1 = d := ⟨_, rfl⟩
    have hw : IntKind.i64.wrap ((L.len : Int) - (L.r1 : Int)) = (d : Int) := by rw [IntKind.wrap_i64]; omega
    by_cases hd0 : d = 0
    · have hdi : (d : Int) = 0 := by omega
      have HF : Hid (∀ q, RsOut G L w (.returned (.tuple #[])) (((((w.drewN q).setCell ⟨G.D, 1, none⟩ (.slice (some ⟨L.B, 0, none⟩) 0 L.cap)).setCell ⟨G.D, 3, none⟩ (.int .i64 0)).setCell ⟨G.D, 2, none⟩ (.int .i64 0)).setCell ⟨G.D, 7, none⟩ (.slice (some ⟨L.E, 0, none⟩) 0 L.ecap))) := Lib.hid fun q => by
        have hb0 : But [] w (w.drewN q) := (But.refl [] w).drewN
        have hb1 : But [G.D] w (((((w.drewN q).setCell ⟨G.D, 1, none⟩ (.slice (some ⟨L.B, 0, none⟩) 0 L.cap)).setCell ⟨G.D, 3, none⟩ (.int .i64 0)).setCell ⟨G.D, 2, none⟩ (.int .i64 0)).setCell ⟨G.D, 7, none⟩ (.slice (some ⟨L.E, 0, none⟩) 0 L.ecap)) := (((((hb0.mono (by simp)).setCell (hd_in _ 1) _).setCell (hd_in _ 3) _).setCell (hd_in _ 2) _).setCell (hd_in _ 7) _)
        have h5 := let_row (Rw.but h.row hb0 (by simp)) hn (L.base + L.len) 0 0 (.slice (some ⟨L.B, 0, none⟩) 0 L.cap) (.int .i64 0) (.int .i64 0) (.slice (some ⟨L.E, 0, none⟩) 0 L.ecap) rfl rfl rfl rfl
        have := h.rs hG (L.base + L.len) 0 0 (hb1.mono (fun k hk => by simp at hk; simp [hk])) h5 (by omega) (by omega) (fun _ => by rw [List.take_zero]; exact buf_none ((h.buf hn).1.but hb1 (by rw [hB]; simpa using hBD))) (fun e => by rw [hn] at e; cases e)
        exact ⟨rfl, Lib.hid ⟨_, this.1, this.2, Rst.of (by omega)⟩⟩
      rw [hB] at HF
      clear h hG hd hd0 hB hn
      go_enter Tryz.func50, Tryz.ntmps50
      go_wp2
      go_quiet (fail)
      go_wp2_with fail
      go_end0
      exact HF.out _
    · have hdi : ¬ (d : Int) = 0 := by omega
      by_cases hcase : L.cm = false ∧ d ≤ 256
      · obtain ⟨hcm, hd2⟩ := hcase
        have hdj : (d : Int) ≤ 256 := by omega
        have hlr : (L.r1 : Int) ≤ (L.len : Int) := by omega
        have hdl : (d : Int) ≤ (L.cap : Int) := by have := (h.buf hn).1.le; have := h.blen'; omega
        have hcr : ¬ L.cap = L.r1 := by have := (h.buf hn).1.le; have := h.blen'; omega
        rw [hcm] at c4
        obtain ⟨y, hy⟩ : ∃ y, ((G.T.drop L.base).take L.len).drop L.r1 = y := ⟨_, rfl⟩
        have hyl : y.length = d := by rw [← hy, List.length_drop, h.blen']; exact hd
        obtain ⟨Wf, hWf⟩ : ∃ Wf : Nat → World, ∀ q, (w.drewN q).setCells B 0 (Lib.byteCells y) = Wf q := ⟨_, fun _ => rfl⟩
        have hbw : ∀ q, But [B] w (Wf q) := fun q => hWf q ▸ ((((But.refl [] w).drewN (n := q)).mono (by simp)).setCells (Or.inl (by simp)) 0 _)
        have hcp : ∀ q, (Builtin.copy_ #[51, 51] 3 #[.slice (some ⟨B, 0, none⟩) L.len L.cap, .slice (some ⟨B, L.r1, none⟩) d (L.cap - L.r1)]).run Tryz.prog (w.drewN q) = .ok (goInt d) (Wf q) := fun q => by
          have hbq := (h.buf hn).1.but ((But.refl [] w).drewN (n := q)) (by simp)
          rw [hB] at hbq
          have hcl := hbq.le
          rw [h.blen'] at hcl
          have := copy_row (w.drewN q) B 0 L.len L.cap B L.r1 d (L.cap - L.r1) d y (by omega) (fun j x hx => by
            rw [← hy, List.getElem?_drop] at hx
            exact hbq.bytes _ x hx) hyl (fun j hj => by rw [Nat.zero_add]; exact hbq.room j (by omega)) (fun j hj => by rw [Nat.zero_add]; exact hbq.free j (by omega)) 3
          rw [List.take_of_length_le (by omega), hWf q] at this
          exact this
        have hr8 : ∀ q, Rw (Wf q) G.D L.cells 63 := fun q => Rw.but h.row (hbw q) (by simpa using fun e => hBD e.symm)
        have hput : ∀ q, BufAt (Wf q) B y L.cap := fun q => by
          have hbq := (h.buf hn).1.but ((But.refl [] w).drewN (n := q)) (by simp)
          rw [hB] at hbq
          have h1 := ((buf_none hbq).put y (by have := hbq.le; rw [h.blen'] at this; simp; omega)).1
          rw [List.length_nil, List.nil_append, hWf q] at h1
          exact h1
        have k1 : ∀ q, (Wf q).cell? ⟨G.D, 1, none⟩ = some (.slice (some ⟨B, 0, none⟩) L.len L.cap) := fun q => by
          have h1 := Rw.cell (hr8 q) 1
          have h2 : L.cells[1]? = some L.bufv := rfl
          rw [h2, bufv_of hn, hB] at h1
          exact h1
        have k3 : ∀ q, (Wf q).cell? ⟨G.D, 3, none⟩ = some (.int .i64 L.r1) := fun q => Rw.cell (hr8 q) 3
        have k7 : ∀ q, (Wf q).cell? ⟨G.D, 7, none⟩ = some (.slice (some ⟨L.E, 0, none⟩) L.esc.length L.ecap) := fun q => Rw.cell (hr8 q) 7
        have k2 : ∀ q, (Wf q).cell? ⟨G.D, 2, none⟩ = some (.int .i64 L.r0) := fun q => Rw.cell (hr8 q) 2
        have f1 : ∀ q, (Wf q).frozen? ⟨G.D, 1, none⟩ = false := fun q => Rw.fz (hr8 q) 1
        have f2 : ∀ q, (Wf q).frozen? ⟨G.D, 2, none⟩ = false := fun q => Rw.fz (hr8 q) 2
        have f3 : ∀ q, (Wf q).frozen? ⟨G.D, 3, none⟩ = false := fun q => Rw.fz (hr8 q) 3
        have f7 : ∀ q, (Wf q).frozen? ⟨G.D, 7, none⟩ = false := fun q => Rw.fz (hr8 q) 7
        have HF : Hid (∀ q, RsOut G L w (.returned (.tuple #[])) (((((Wf q).setCell ⟨G.D, 3, none⟩ (.int .i64 0)).setCell ⟨G.D, 1, none⟩ (.slice (some ⟨B, 0, none⟩) d L.cap)).setCell ⟨G.D, 2, none⟩ (.int .i64 0)).setCell ⟨G.D, 7, none⟩ (.slice (some ⟨L.E, 0, none⟩) 0 L.ecap))) := Lib.hid fun q => by
          have hb1 : But [G.D] (Wf q) (((((Wf q).setCell ⟨G.D, 3, none⟩ (.int .i64 0)).setCell ⟨G.D, 1, none⟩ (.slice (some ⟨B, 0, none⟩) d L.cap)).setCell ⟨G.D, 2, none⟩ (.int .i64 0)).setCell ⟨G.D, 7, none⟩ (.slice (some ⟨L.E, 0, none⟩) 0 L.ecap)) := (((((But.refl _ (Wf q))).setCell (hd_in _ 3) _).setCell (hd_in _ 1) _).setCell (hd_in _ 2) _).setCell (hd_in _ 7) _
          have h5 := let_row2 (hr8 q) hn (L.base + L.r1) d 0 (.slice (some ⟨B, 0, none⟩) d L.cap) (.int .i64 0) (.int .i64 0) (.slice (some ⟨L.E, 0, none⟩) 0 L.ecap) (by rw [hB]) rfl rfl rfl
          have := h.rs hG (L.base + L.r1) d 0 (((hbw q).mono (fun k hk => by simp at hk; simp [hn, hB, hk])).trans (hb1.mono (fun k hk => by simp at hk; simp [hk]))) h5 (by omega) (by omega) (fun _ => by
            have h1 := (hput q).but hb1 (by simpa using hBD)
            have e : (G.T.drop (L.base + L.r1)).take d = y := by
              rw [← hy, List.drop_take, List.drop_drop, hd]
            rw [e, hB]
            exact h1) (fun e => by rw [hn] at e; cases e)
          exact ⟨rfl, Lib.hid ⟨_, this.1, this.2, Rst.of (by omega)⟩⟩
        have HCP := Lib.hid hcp
        clear h hG hd0 hB hn hcm hd2 hy hyl hWf hbw hcp hr8 hput
        go_enter Tryz.func50, Tryz.ntmps50
        go_wp2
        go_quiet (fail)
        go_wp2_with fail
        refine region_tail 13 (by kernel_rfl) ?_
        simp only [List.take_succ_cons, List.take_zero, List.drop_succ_cons, List.drop_zero]
        repeat still_step
        refine wpStill_nil ?_
        have hcp := HCP.out
        go_wp2_with fail
        clear hcp
        go_end0
        exact HF.out _
      · have HF : Hid (∀ q, RsOut G L w (.returned (.tuple #[])) ((((w.drewN q).setCell ⟨G.D, 2, none⟩ (.int .i64 L.r1)).setCell ⟨G.D, 7, none⟩ (.slice (some ⟨L.E, 0, none⟩) 0 L.ecap)))) := Lib.hid fun q => by
          have hb0 : But [] w (w.drewN q) := (But.refl [] w).drewN
          have hb1 : But [G.D] w ((((w.drewN q).setCell ⟨G.D, 2, none⟩ (.int .i64 L.r1)).setCell ⟨G.D, 7, none⟩ (.slice (some ⟨L.E, 0, none⟩) 0 L.ecap))) := (((hb0.mono (by simp)).setCell (hd_in _ 2) _).setCell (hd_in _ 7) _)
          have h5 := Rw.set (Rw.set (Rw.but h.row hb0 (by simp)) 2 (.int .i64 L.r1)) 7 (.slice (some ⟨L.E, 0, none⟩) 0 L.ecap)
          have e : ((L.cells.set 2 (.int .i64 L.r1)).set 7 (.slice (some ⟨L.E, 0, none⟩) 0 L.ecap)) = (L.let L.base L.len L.r1).cells := by simp [Lay.cells, Lay.let, Lay.bufv, hn]
          rw [e] at h5
          have := h.rs hG L.base L.len L.r1 (hb1.mono (fun k hk => by simp at hk; simp [hk])) h5 rfl rfl (fun _ => (h.buf hn).1.but hb1 (by rw [hB]; simpa using hBD)) (fun e => by rw [hn] at e; cases e)
          exact ⟨rfl, Lib.hid ⟨_, this.1, this.2, Rst.of rfl⟩⟩
        rcases hcc : L.cm with _ | _
        · have hdj : ¬ (d : Int) ≤ 256 := by intro e; exact hcase ⟨hcc, by omega⟩
          rw [hcc] at c4
          clear h hG hd hd0 hB hn hcase
          go_enter Tryz.func50, Tryz.ntmps50
          go_wp2
          go_quiet (fail)
          go_wp2_with fail
          go_end0
          exact HF.out _
        · rw [hcc] at c4
          clear h hG hd hd0 hB hn hcase
          go_enter Tryz.func50, Tryz.ntmps50
          go_wp2
          go_quiet (fail)
          go_wp2_with fail
          go_end0
          exact HF.out _
end Go.Proofs.YtlcbcgillekphaaGreatDoor.dec
