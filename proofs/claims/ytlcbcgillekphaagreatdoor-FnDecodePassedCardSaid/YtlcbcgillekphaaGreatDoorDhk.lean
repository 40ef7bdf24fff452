/-
  Proved: the contract of impl.DecodeAll.
  Conditions: a text of at most 4000 bytes, sizes of at most 100 pieces in memory.
-/
import Derived.Test.YtlcbcgillekphaaGreatDoorDhi
import Derived.Test.YtlcbcgillekphaaGreatDoorDhj
import Derived.Test.YtlcbcgillekphaaGreatDoorGc
namespace Go.Proofs.YtlcbcgillekphaaGreatDoor.dec
open Go.RowKit Mem rw ent
set_option linter.unusedVariables false
set_option linter.unusedSimpArgs false

theorem catch12 (p0 p1 : Addr) (w : World) :
    CallsD Tryz.prog 12 #[.pointer (some p0), .pointer (some p1)] .returning w fun e u' w' => e = .returned (.tuple #[]) ∧ u' = .returning ∧ w = w' := by
  refine callsD_of_wpS Tryz.func12 rfl fun c₀ cs hu => ?_
  apply wpS_seq
  apply wpS_region
  simp [wpOpsS, go_sem, recoverD, hu, Tryz.ntmps12, Exit.thenS]
  refine wpS_cond (t := false) (by simp [Act.eval, Array.replicate]) ?_
  simp only [Bool.false_eq_true, if_false]
  refine wpS_of_wp (wp_skip ?_)
  cases c₀
  simp_all [bodyPostS, results, Tryz.results12]
theorem step_app {w w' : World} {ops : Array Oper} {o : Oper} {a : Act} {K : Act → World → Prop} {Q : Exit → Act → World → Prop} {E : Prop} (hgd : o.guard = none) (s x : Operand) (t u : TypeId)
    (ho : o.op = .call { callee := .builtin .append, args := #[s, x], argTypes := #[t, u] }) (v y r : Value) (hs : a.eval s = v) (hx : a.eval x = y)
    (hr : (Builtin.append_ #[t, u] o.type #[v, y]).run Tryz.prog w = .ok r w') (h : K (a.put o.dst r) w') : if Region.wanted o (yielded ops a.tmps) = true then Oper.wp Tryz.prog o a w K Q else E := by
  have hw : Region.wanted o (yielded ops a.tmps) = true := by simp [Region.wanted, hgd]
  rw [if_pos hw]
  unfold Oper.wp execOp
  simp only [ho, resolve, invoke, builtin, Sem.run_bind, Sem.run_pure, Result.andThen_ok, List.map_toArray, List.map_cons, List.map_nil, hs, hx, hr]
  exact h
theorem two_put (W : World) (p : Nat) (u0 u1 v0 v1 : Value) (k0 : W.cell? ⟨p, 0, none⟩ = some u0) (k1 : W.cell? ⟨p + 1, 0, none⟩ = some u1) :
    ((W.setCell ⟨p, 0, none⟩ v0).setCell ⟨p + 1, 0, none⟩ v1).cell? ⟨p, 0, none⟩ = some v0 ∧ ((W.setCell ⟨p, 0, none⟩ v0).setCell ⟨p + 1, 0, none⟩ v1).cell? ⟨p + 1, 0, none⟩ = some v1 ∧ Below p W ((W.setCell ⟨p, 0, none⟩ v0).setCell ⟨p + 1, 0, none⟩ v1) := by
  refine ⟨?_, ?_, ?_⟩
  · rw [World.cell?_setCell_other _ _ _ _ (by simp)]
    exact World.cell?_setCell_same _ _ _ k0
  · exact World.cell?_setCell_same _ _ _ ((World.cell?_setCell_other _ _ _ _ (by simp)).trans k1)
  · exact ((Below.refl p W).setCell (Nat.le_refl _) _).setCell (by show p ≤ p + 1; omega) _
theorem two_new (w : World) (T0 T1 : TypeId) (u0 u1 : Value) (W : World) (h : (w.alloc (.cells #[u0] T0)).alloc (.cells #[u1] T1) = W) :
    Rw W w.heap.size [u0] T0 ∧ Rw W (w.heap.size + 1) [u1] T1 ∧ But [] w W ∧ W.heap.size = w.heap.size + 2 := by
  obtain ⟨w1, h1⟩ : ∃ w1, w.alloc (.cells #[u0] T0) = w1 := ⟨_, rfl⟩
  rw [h1] at h
  have r0 := Rw.new w [u0] T0
  have r1 := Rw.new w1 [u1] T1
  have b0 := (But.refl [] w).alloc (.cells #[u0] T0)
  have b1 := (But.refl [] w1).alloc (.cells #[u1] T1)
  have s0 := alloc_size w (.cells #[u0] T0)
  have s1 := alloc_size w1 (.cells #[u1] T1)
  rw [h1] at r0 b0 s0
  rw [h] at r1 b1 s1
  rw [s0] at r1 s1
  exact ⟨Rw.but r0 b1 (by simp), r1, b0.trans b1, s1⟩
theorem ChL.far2 {b : Bool} {G : Cfg} {L0 : Lay} {w0 : World} {x s y n : Nat} {w w' : World} {L : Lay} {S : List Nat} (c : ChL b G L0 w0 [] x s y n w L) (hb : But S w w') (hS : ∀ k, k ∈ S → k ∉ own G L ∧ G.w0.heap.size ≤ k) : ChL b G L w' [] x s y n w' L := by
  have hno : ∀ k, k ∈ own G L → k ∉ S := fun k hk hs => (hS k hs).1 hk
  have hD : G.D ∉ S := hno _ (mem_own.2 (.inl rfl))
  have hE : L.E ∉ S := hno _ (mem_own.2 (.inr (.inl rfl)))
  have hR : G.R ∉ S := hno _ (mem_own.2 (.inr (.inr (.inl rfl))))
  have h := c.dl
  exact ⟨⟨Rw.but h.row hb hD, fun hn => ⟨(h.buf hn).1.but hb (hno _ (mem_own.2 (.inr (.inr (.inr ⟨hn, rfl⟩))))), (h.buf hn).2⟩, h.nbz, h.blen, h.r01, h.r1l, h.esc.but hb hE, h.escl, h.DE, h.RE, h.lo, h.all,
    fun hc => ⟨(h.more hc).1, let ⟨a, ha⟩ := (h.more hc).2.1; ⟨a, Rw.but ha.row hb hR, ha.few, ha.le⟩, (h.more hc).2.2⟩, h.bel.trans (hb.below _ h.bel.size (fun k hk => (hS k hk).2)), h.line, Nat.lt_of_lt_of_le h.rlt hb.size⟩, Step.refl G L w', c.pos, c.sec, c.frm, c.line, c.sk, c.esc, c.av, fun p hp => by simp at hp⟩
/-- Where impl.DecodeAll stands; its results lie at P and at P + 1. -/
structure DS (G : Cfg) (P : Nat) (v : Value) (l : List EnP) (x s y : Nat) (w : World) (L : Lay) : Prop where
  ch : ChL false G L w [] x s y 0 w L
  o4 : P ∉ own G L
  o5 : P + 1 ∉ own G L
  vf : ∀ k, v.ownBlock = some k → k ∉ own G L
  lf : ∀ p ∈ l, (∀ k, p.tv.ownBlock = some k → k ∉ own G L) ∧ (∀ k, p.fv.ownBlock = some k → k ∉ own G L)
  r4 : Rw w P [v] 23
  r5 : Rw w (P + 1) [.bool false] 4
  pw : G.w0.heap.size ≤ P
  ents : Ents w G.w0.heap.size v l
section
variable {G : Cfg} {P : Nat} {v : Value} {l : List EnP} {x s y : Nat} {w : World} {L : Lay}
/-- A call of the decoder's. -/
theorem DS.call (h : DS G P v l x s y w L) {H : List (Option Addr × List UInt8)} {x1 s1 y1 n1 : Nat} {w1 : World} {L1 : Lay} (c1 : ChL false G L w H x1 s1 y1 n1 w1 L1) : DS G P v l x1 s1 y1 w1 L1 := by
  have k4 := c1.step.keep h.r4 h.o4
  have k5 := c1.step.keep h.r5 h.o5
  have hk : ∀ k, k ∉ own G L → k < w.heap.size → k ∉ own G L1 := fun k h1 h2 h3 => by
    rcases own_next c1.step k h3 with e | e
    · exact h1 e
    · omega
  exact ⟨⟨c1.dl, Step.refl G L1 w1, c1.pos, c1.sec, c1.frm, c1.line, c1.sk, c1.esc, .inl rfl, fun p hp => by simp at hp⟩, k4.2, k5.2, fun k e => hk k (h.vf k e) (own_base h.ents.own k e).2.1,
    fun p hp => ⟨fun k e => hk k ((h.lf p hp).1 k e) (own_base (h.ents.rows p hp).tags k e).2.1, fun k e => hk k ((h.lf p hp).2 k e) (own_base (h.ents.rows p hp).fields k e).2.1⟩, k4.1, k5.1, h.pw, h.ents.but c1.step.but h.vf fun p hp => h.lf p hp⟩
theorem DS.quiet (h : DS G P v l x s y w L) {w1 : World} (hb : But [] w w1) : DS G P v l x s y w1 L := h.call (h.ch.quiet hb)
/-- An entry is appended and stored. -/
theorem DS.more (h : DS G P v l x s y w L) {p : EnP} {w1 : World} {x1 s1 y1 : Nat} {L1 : Lay} (hl : Left G L w p.E.tags p.E.fields p.tv p.fv x1 s1 y1 w1 L1) (hn : l.length ≤ 100000) (ty : TypeId) :
    ∃ g cap w2, (Builtin.append_ #[23, 23] ty #[v, .slice (some ⟨w1.heap.size, 0, none⟩) 1 1]).run Tryz.prog (w1.alloc (.cells (enC p.E p.tv p.fv).toArray 41)) = .ok (.slice (some ⟨g, 0, none⟩) (l.length + 1) cap) w2 ∧
      w1.cell? ⟨P, 0, none⟩ = some v ∧ w2.cell? ⟨P, 0, none⟩ = some v ∧ w2.frozen? ⟨P, 0, none⟩ = false ∧ DS G P (.slice (some ⟨g, 0, none⟩) (l.length + 1) cap) (l ++ [p]) x1 s1 y1 (w2.setCell ⟨P, 0, none⟩ (.slice (some ⟨g, 0, none⟩) (l.length + 1) cap)) L1 := by
  have h1 := h.call hl.ch
  have hp : ERows w1 G.w0.heap.size p.E.tags p.E.fields p.tv p.fv := hl.rows.mono h.ch.dl.bel.size
  obtain ⟨g, cap, w2, r1, r2, r3, r4⟩ := h1.ents.more hn h1.ch.dl.bel.size p hp ty
  have hb0 := r3 (match v.ownBlock with | some k => [k] | none => []) (fun k hk => by rw [hk]; simp)
  have hS : ∀ k, k ∈ (match v.ownBlock with | some k => [k] | none => []) → v.ownBlock = some k := fun k hk => by
    cases e : v.ownBlock with
    | none => rw [e] at hk; simp at hk
    | some q => rw [e] at hk; simp at hk; rw [hk]
  have hfar : ∀ k, v.ownBlock = some k → k ∉ own G L1 ∧ G.w0.heap.size ≤ k ∧ k ≠ P ∧ k ≠ P + 1 := fun k hk => by
    obtain ⟨b1, b2, cur, hc⟩ := own_base h1.ents.own k hk
    exact ⟨h1.vf k hk, b1, ne_type hc h1.r4 (by decide), ne_type hc h1.r5 (by decide)⟩
  have c2 := h1.ch.far2 hb0 (fun k hk => ⟨(hfar k (hS k hk)).1, (hfar k (hS k hk)).2.1⟩)
  have q4 := Rw.but h1.r4 hb0 (fun hk => (hfar _ (hS _ hk)).2.2.1 rfl)
  have q5 := Rw.but h1.r5 hb0 (fun hk => (hfar _ (hS _ hk)).2.2.2 rfl)
  have hb3 : But [P] w2 (w2.setCell ⟨P, 0, none⟩ (.slice (some ⟨g, 0, none⟩) (l.length + 1) cap)) := (But.refl [P] w2).setCell (Or.inl (by simp)) _
  have c3 := c2.far2 hb3 (fun k hk => by simp at hk; subst hk; exact ⟨h1.o4, h1.pw⟩)
  have hg : g ∉ own G L1 := by
    rcases r4 with e | e
    · exact (hfar g e).1
    · exact fresh_own h1.ch.dl e
  have hgP : g ≠ P := by
    obtain ⟨b1, b2, cur, hc⟩ := own_base r2.own g rfl
    exact ne_type hc q4 (by decide)
  have hrow : ∀ q ∈ l ++ [p], (∀ k, q.tv.ownBlock = some k → k ∉ own G L1 ∧ k ≠ P) ∧ (∀ k, q.fv.ownBlock = some k → k ∉ own G L1 ∧ k ≠ P) := fun q hq => by
    have hne := r2.rows q hq
    refine ⟨fun k e => ⟨?_, ?_⟩, fun k e => ⟨?_, ?_⟩⟩
    · rcases List.mem_append.1 hq with hq | hq
      · exact (h1.lf q hq).1 k e
      · simp at hq; subst hq; exact hl.tfar k e
    · obtain ⟨_, _, cur, hc⟩ := own_base hne.tags k e
      exact ne_type hc q4 (by decide)
    · rcases List.mem_append.1 hq with hq | hq
      · exact (h1.lf q hq).2 k e
      · simp at hq; subst hq; exact hl.ffar k e
    · obtain ⟨_, _, cur, hc⟩ := own_base hne.fields k e
      exact ne_type hc q4 (by decide)
  refine ⟨g, cap, w2, r1, Rw.cell h1.r4 0, Rw.cell q4 0, Rw.fz q4 0, c3, h1.o4, h1.o5, fun k e => ?_, fun q hq => ⟨fun k e => ((hrow q hq).1 k e).1, fun k e => ((hrow q hq).2 k e).1⟩, Rw.set q4 0 _, Rw.but q5 hb3 (by simp), h1.pw, r2.but hb3 (fun k e => ?_) fun q hq => ⟨fun k e => by simpa using ((hrow q hq).1 k e).2, fun k e => by simpa using ((hrow q hq).2 k e).2⟩⟩
  · simp only [Value.ownBlock, Option.some.injEq] at e
    rw [← e]; exact hg
  · simp only [Value.ownBlock, Option.some.injEq] at e
    rw [← e]; simpa using hgP
theorem DS.arm (h : DS G P v l x s y w L) {E : dm.En} {tv fv : Value} {w1 : World} {x1 s1 y1 : Nat} {L1 : Lay} (hl : Left G L w E.tags E.fields tv fv x1 s1 y1 w1 L1) (hn : l.length ≤ 100000) (ty : TypeId) :
    ∃ (nm tm : ByteArray) (ta fa : Option Addr) (tn tc fn fc : Nat) (ht fb : Bool) (ll k at_ g cap : Nat) (w2 : World),
      enV E tv fv = .agg #[.string nm, .slice ta tn tc, .slice fa fn fc, .string tm, .bool ht, .bool fb, .int .i64 ll, .int .i64 k, .bool false, .int .i64 at_] ∧
      (Builtin.append_ #[23, 23] ty #[v, .slice (some ⟨w1.heap.size, 0, none⟩) 1 1]).run Tryz.prog (w1.alloc (.cells #[.string nm, .slice ta tn tc, .slice fa fn fc, .string tm, .bool ht, .bool fb, .int .i64 ll, .int .i64 k, .bool false, .int .i64 at_] 41)) = .ok (.slice (some ⟨g, 0, none⟩) (l.length + 1) cap) w2 ∧
      w1.cell? ⟨P, 0, none⟩ = some v ∧ w2.cell? ⟨P, 0, none⟩ = some v ∧ w2.frozen? ⟨P, 0, none⟩ = false ∧ P < w1.heap.size ∧ DS G P (.slice (some ⟨g, 0, none⟩) (l.length + 1) cap) (l ++ [⟨E, tv, fv⟩]) x1 s1 y1 (w2.setCell ⟨P, 0, none⟩ (.slice (some ⟨g, 0, none⟩) (l.length + 1) cap)) L1 := by
  obtain ⟨nm, tm, ta, fa, tn, tc, fn, fc, ht, fb, ll, k, at_, e⟩ := enC_form hl.rows
  obtain ⟨g, cap, w2, r1, r2, r3, r4, r5⟩ := h.more (p := ⟨E, tv, fv⟩) hl hn ty
  simp only at r1
  rw [e] at r1
  exact ⟨nm, tm, ta, fa, tn, tc, fn, fc, ht, fb, ll, k, at_, g, cap, w2, by unfold enV; rw [e], r1, r2, r3, r4, block_lt_of_cell r2, r5⟩
end
theorem mu_lt {T : List UInt8} {x s x2 x3 s3 : Nat} (hs : s = 5 ∨ s = 4) (h1 : x ≤ x2) (h2 : s ≠ 5 → x < x2) (h3 : x2 ≤ x3) (h4 : s3 = 4 ∨ x2 < x3) (h5 : s3 = 5 ∨ s3 = 4) (h6 : x2 < T.length) (h7 : x3 ≤ T.length) : dm.mu T x3 s3 < dm.mu T x s := by
  unfold dm.mu
  rcases hs with rfl | rfl <;> rcases h5 with rfl | rfl <;> simp <;> omega
/-- What DecodeAll tells. -/
def AllOut (s : ByteArray) (w : World) (e : Ending) (w' : World) : Prop :=
  ∃ (v : Value) (l : List EnP), e = .returned (.tuple #[v, .bool true]) ∧ Hid (Ents w' w.heap.size v l ∧ l.map (·.E) = dm.allM s.data.toList ∧ l.length ≤ 10000 ∧ Below w.heap.size w w')
set_option maxRecDepth 100000 in
set_option maxHeartbeats 4000000 in
theorem all5 (s : ByteArray) (hs : s.size ≤ 4000) (sa : Option Addr) (zs : List Int) (sc : Nat) (w : World) (ev : Addr) (hc : Ctx w ev) (ho : Ovr w) (hz : SzAt w sa zs) :
    Calls Tryz.prog 5 #[.string s, .slice sa zs.length sc] w (AllOut s w) := by
  have hmf : ∀ (fn : Fn) (first cap : Array Value) (w : World), (Instr.makeFunc fn first cap).run Tryz.prog w = .ok (.func fn first cap) w := fun _ _ _ _ => rfl
  obtain ⟨W5, hW5⟩ : ∃ W5, (w.alloc (.cells #[.slice none 0 0] 23)).alloc (.cells #[.bool false] 4) = W5 := ⟨_, rfl⟩
  obtain ⟨r0, r1, hb5, hs5⟩ := two_new w _ _ _ _ W5 hW5
  have HD := Lib.hid (decoder15' s hs sa zs sc W5 ev hb5 hc hz)
  have HR := Lib.hid (And.intro r0 (And.intro r1 (And.intro hb5 hs5)))
  have HO := Lib.hid ho
  obtain ⟨n, hn⟩ : ∃ n, zs.length = n := ⟨_, rfl⟩
  rw [hn] at HD ⊢
  clear hc hz r0 r1 hb5 hs5 hn ho
  go_enter_defers Tryz.func5, Tryz.ntmps5
  go_wp2_with (fail)
  refine HD.out.mono ?_
  rintro e w6 ⟨G, L, rfl, hO⟩
  obtain ⟨d1, d2, d3, d4, d5, d6, d7⟩ := hO.out
  have HG := Lib.hid d1
  have HGW := Lib.hid d3
  have HGT := Lib.hid d4
  obtain ⟨P, hP⟩ : ∃ P, w.heap.size = P := ⟨_, rfl⟩
  have HDS : Hid (DS G P (.slice none 0 0) [] 0 5 0 w6 L) := Lib.hid (by
    obtain ⟨r0, r1, hb5, hs5⟩ := HR.out
    have hP0 : P ∉ own G L := fun h => by have := d7 P h; omega
    have hP1 : P + 1 ∉ own G L := fun h => by have := d7 (P + 1) h; omega
    rw [hP] at r0 r1
    refine ⟨⟨d2, Step.refl G L w6, by unfold Lay.pos; rw [d5.base, d5.r1], d5.sec, by unfold Lay.frm; rw [d5.base, d5.r0], by rw [d5.line]; rfl, d5.sk, by rw [d5.esc]; exact Nat.le_refl _, .inl rfl, fun p hp => by simp at hp⟩, hP0, hP1, fun k e => (by cases e), fun p hp => (by simp at hp), Rw.but r0 d6 (by simp), Rw.but r1 d6 (by simp), (by rw [d3]; omega), Ents.nil _ _⟩)
  have HP := Lib.hid hP
  clear hO d1 d2 d3 d4 d5 d6 d7 HD hW5
  go_wp2_with (fail)
  go_loopg [] (dm.mu G.T 0 5) (fun g wr => ∃ (v : Value) (l : List EnP) (x s' y : Nat) (L1 : Lay), g = dm.mu G.T x s' ∧ (s' = 5 ∨ s' = 4) ∧ Hid (DS G P v l x s' y wr L1 ∧ l.length + dm.mu G.T x s' ≤ dm.mu G.T 0 5 ∧ ∃ f, dm.mu G.T x s' < f ∧ dm.allM G.T = l.map (·.E) ++ dm.entriesM G.T f ⟨x, s', y⟩))
  case atStart => exact ⟨.slice none 0 0, [], 0, 5, 0, L, rfl, .inl rfl, Lib.hid ⟨HDS.out, by simp, 2 * G.T.length + 2, by unfold dm.mu; simp, rfl⟩⟩
  case round =>
    obtain ⟨v, l, x, s', y, L1, hg, hs', hI⟩ := hrel
    have HN := Lib.hid (Ch.next HG.out (⟨L1, hI.out.1.ch⟩ : Ch false G L1 wr [] x s' y 0 wr) hs')
    obtain ⟨bn, hbn⟩ : ∃ bn, decide ((dm.nextM G.T ⟨x, s', y⟩).at_ < G.T.length) = bn := ⟨_, rfl⟩
    rw [hbn] at HN
    have HBN := Lib.hid hbn
    clear HDS hbn
    go_wp2_with (fail)
    refine HN.out.mono ?_
    rintro e w2 ⟨rfl, h2⟩
    obtain ⟨y2, L2, c2⟩ := h2.out
    have hD2 := hI.out.1.call c2
    have hx := dm.next_le G.T x s' y hI.out.1.ch.le
    obtain ⟨x2, hx2⟩ : ∃ x2, (dm.nextM G.T ⟨x, s', y⟩).at_ = x2 := ⟨_, rfl⟩
    have hnf := dm.next_form G.T ⟨x, s', y⟩
    rw [hx2] at hx hD2 hnf
    have hbn := HBN.out
    rw [hx2] at hbn
    cases bn with
    | false =>
      have hge : G.T.length ≤ x2 := by simpa using hbn
      have HALL : Hid (dm.allM G.T = l.map (·.E)) := Lib.hid (by
        obtain ⟨f, hf1, hf2⟩ := hI.out.2.2
        rw [hf2]
        obtain ⟨f1, rfl⟩ : ∃ f1, f = f1 + 1 := ⟨f - 1, by omega⟩
        rw [dm.entriesM, hnf]
        simp only []
        rw [if_neg (by omega)]
        simp)
      have hll : l.length ≤ 10000 := by
        have := hI.out.2.1
        have h2 := HG.out.tlen
        unfold dm.mu at this
        simp at this
        omega
      have k4 : w2.cell? ⟨P, 0, none⟩ = some v := Rw.cell hD2.r4 0
      have k5 : w2.cell? ⟨P + 1, 0, none⟩ = some (.bool false) := Rw.cell hD2.r5 0
      have f4 := Rw.fz hD2.r4 0
      have f5 := Rw.fz hD2.r5 0
      obtain ⟨va, vc, hv⟩ := own_form hD2.ents.own
      obtain ⟨e0, e2, eb⟩ := two_put w2 P _ _ v (.bool true) k4 k5
      have HF : Hid (Ents ((w2.setCell ⟨P, 0, none⟩ v).setCell ⟨P + 1, 0, none⟩ (.bool true)) w.heap.size v l ∧ l.map (·.E) = dm.allM s.data.toList ∧ l.length ≤ 10000 ∧ Below w.heap.size w ((w2.setCell ⟨P, 0, none⟩ v).setCell ⟨P + 1, 0, none⟩ (.bool true))) := Lib.hid (by
        have hb : But [P, P + 1] w2 ((w2.setCell ⟨P, 0, none⟩ v).setCell ⟨P + 1, 0, none⟩ (.bool true)) := ((But.refl [P, P + 1] w2).setCell (p := ⟨P, 0, none⟩) (Or.inl (by simp)) v).setCell (p := ⟨P + 1, 0, none⟩) (Or.inl (by simp)) (.bool true)
        have hne : ∀ {k : Nat} {cur : Array Value} {t : TypeId}, w2.heap[k]? = some (.cells cur t (0, 0)) → t ≠ 23 → t ≠ 4 → k ∉ [P, P + 1] := fun hk h1 h2 => by
          have n1 := ne_type hk hD2.r4 h1
          have n2 := ne_type hk hD2.r5 h2
          simp [n1, n2]
        refine ⟨?_, ?_, hll, ?_⟩
        · rw [← HGW.out]
          refine hD2.ents.but hb (fun k e => ?_) (fun p hp => ⟨fun k e => ?_, fun k e => ?_⟩)
          · obtain ⟨_, _, cur, hc⟩ := own_base hD2.ents.own k e
            exact hne hc (by decide) (by decide)
          · obtain ⟨_, _, cur, hc⟩ := own_base (hD2.ents.rows p hp).tags k e
            exact hne hc (by decide) (by decide)
          · obtain ⟨_, _, cur, hc⟩ := own_base (hD2.ents.rows p hp).fields k e
            exact hne hc (by decide) (by decide)
        · rw [← HGT.out]; exact HALL.out.symm
        · have h1 := hD2.ch.dl.bel
          rw [HGW.out] at h1
          exact h1.trans (eb.mono (by rw [HP.out]; exact Nat.le_refl _)))
      have E0 := Lib.hid (And.intro e0 e2)
      subst hv
      clear hI h2 c2 hD2 hx hx2 hnf hbn HBN HALL e0 e2 eb hge hll HN hg hs'
      go_wp2_with (fail)
      obtain ⟨e0, e2⟩ := E0.out
      refine leaves_cons (f := 12) (args := #[.pointer (some ⟨P, 0, none⟩), .pointer (some ⟨P + 1, 0, none⟩)]) (by simp) (by simp [go_sem]) ?_
      refine (catch12 _ _ _).mono ?_
      rintro e u' w'' ⟨rfl, rfl, rfl⟩
      simp [Leaves, settle, results, Tryz.results5, go_sem, e0, e2]
      exact ⟨_, l, rfl, HF⟩
    | true =>
      have hlt : x2 < G.T.length := by simpa using hbn
      have HEN : Hid (∀ wq, But [] w2 wq → Calls Tryz.prog 15 #[.pointer (some ⟨G.D, 0, none⟩)] wq (EntryOut G L2 wq (dm.entryM G.T ⟨x2, 0, x2⟩))) := Lib.hid fun wq hb =>
        entry15 G HG.out (by rw [HGW.out]; exact HO.out) L2 wq [] x2 y2 0 (hD2.quiet hb).ch
      have HARM : Hid (∀ wq, But [] w2 wq → ∀ (E : dm.En) (tv fv : Value) (x3 s3 y3 : Nat) (L3 : Lay) (w3 : World), Left G L2 wq E.tags E.fields tv fv x3 s3 y3 w3 L3 → _) := Lib.hid fun wq hb E tv fv x3 s3 y3 L3 w3 hl => (hD2.quiet hb).arm hl (by
        have h1 := hI.out.2.1
        have h2 := HG.out.tlen
        unfold dm.mu at h1
        simp at h1
        omega) 23
      have HREL : Hid (∀ (E : dm.En) (tv fv : Value) (x3 s3 y3 : Nat) (L3 : Lay) (v3 : Value) (w4 : World), dm.entryM G.T ⟨x2, 0, x2⟩ = (E, ⟨x3, s3, y3⟩) → (s3 = 5 ∨ s3 = 4) → DS G P v3 (l ++ [⟨E, tv, fv⟩]) x3 s3 y3 w4 L3 → dm.mu G.T x3 s3 < dm.mu G.T x s' ∧ (l ++ [(⟨E, tv, fv⟩ : EnP)]).length + dm.mu G.T x3 s3 ≤ dm.mu G.T 0 5 ∧ ∃ f, dm.mu G.T x3 s3 < f ∧ dm.allM G.T = (l ++ [(⟨E, tv, fv⟩ : EnP)]).map (·.E) ++ dm.entriesM G.T f ⟨x3, s3, y3⟩) := Lib.hid fun E tv fv x3 s3 y3 L3 v3 w4 hr hs3 hds => by
        have he := dm.entry_le rfl hr
        simp only at he
        have hlt3 := mu_lt (T := G.T) hs' hx.1 (fun h => hx.2 h (by omega)) he.1 he.2 hs3 hlt hds.ch.le
        obtain ⟨f, hf1, hf2⟩ := hI.out.2.2
        refine ⟨hlt3, by have := hI.out.2.1; simp; omega, f - 1, by omega, ?_⟩
        rw [hf2]
        obtain ⟨f1, rfl⟩ : ∃ f1, f = f1 + 1 := ⟨f - 1, by omega⟩
        rw [dm.entriesM, hnf]
        simp only []
        rw [if_pos hlt, hr]
        simp
      have k2 : w2.cell? ⟨P, 0, none⟩ = some v := Rw.cell hD2.r4 0
      clear hI h2 c2 hD2 hx hx2 hnf hbn HBN hlt HN hs'
      go_wp2_with (fail)
      refine wp_region_noPanic ?_
      go_region_law (first
        | (go_simp; go_at_call 15; refine (HEN.out _ (by first | exact (But.refl [] _).drew | exact But.refl [] _)).mono ?_; rintro e w3 ⟨E, tv, fv, rfl, hh⟩; obtain ⟨x3, s3, y3, L3, hr, hs3, hleft⟩ := hh.out; obtain ⟨nm, tm, ta, fa, tn, tc, fn, fc, ht, fb, ll, k, at_, g, cap, w4, hev, hrun, k3, k4, f4, hP3, hds⟩ := HARM.out _ (by first | exact (But.refl [] _).drew | exact But.refl [] _) E tv fv x3 s3 y3 L3 w3 hleft; rw [hev]; have HRUN := Lib.hid hrun; have HX := Lib.hid (And.intro hr (And.intro hs3 hds)); clear hrun hr hs3 hds hleft hh hev)
        | (refine step_app rfl (.tmp 13) (.tmp 16) 23 23 rfl _ _ _ (by rfl) (by rfl) HRUN.out ?_))
      all_goals
        refine NoPanic.normal ?_
        obtain ⟨hr, hs3, hds⟩ := HX.out
        have hF := HREL.out E tv fv x3 s3 y3 L3 _ _ hr hs3 hds
        have hms : dm.mu G.T x3 s3 < gk := by rw [hg]; exact hF.1
        have HFR : Hid (DS G P (.slice (some ⟨g, 0, none⟩) (l.length + 1) cap) (l ++ [(⟨E, tv, fv⟩ : EnP)]) x3 s3 y3 (w4.setCell ⟨P, 0, none⟩ (.slice (some ⟨g, 0, none⟩) (l.length + 1) cap)) L3 ∧ _) := Lib.hid ⟨hds, hF.2⟩
        have HS3 := Lib.hid hs3
        clear hF hds hr hs3
        go_wp2_with (fail)
        go_roundg (dm.mu G.T x3 s3)
        case measure => exact hms
        case rel => exact ⟨_, l ++ [(⟨E, tv, fv⟩ : EnP)], x3, s3, y3, L3, rfl, HS3.out, HFR⟩
end Go.Proofs.YtlcbcgillekphaaGreatDoor.dec
