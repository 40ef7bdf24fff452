/-
  Proved: the contract of impl.entry.
  Conditions: a decoder in memory at an entry's beginning.
-/
import Derived.Test.YtlcbcgillekphaaGreatDoorDhh
import Derived.Test.YtlcbcgillekphaaGreatDoorGc
namespace Go.Proofs.YtlcbcgillekphaaGreatDoor.dec
open Go.RowKit Mem rw ent
set_option linter.unusedVariables false
set_option linter.unusedSimpArgs false

theorem ChL.far {b : Bool} {G : Cfg} {L0 : Lay} {w0 : World} {x s y n : Nat} {w w' : World} {L : Lay} {S : List Nat} (c : ChL b G L0 w0 [] x s y n w L) (hb : But S w w') (hS : ∀ k, k ∈ S → k ∉ own G L ∧ w0.heap.size ≤ k ∧ G.w0.heap.size ≤ k) : ChL b G L0 w0 [] x s y n w' L := by
  have hno : ∀ k, k ∈ own G L → k ∉ S := fun k hk hs => (hS k hs).1 hk
  have hD : G.D ∉ S := hno _ (mem_own.2 (.inl rfl))
  have hE : L.E ∉ S := hno _ (mem_own.2 (.inr (.inl rfl)))
  have hR : G.R ∉ S := hno _ (mem_own.2 (.inr (.inr (.inl rfl))))
  have h := c.dl
  refine ⟨⟨Rw.but h.row hb hD, fun hn => ⟨(h.buf hn).1.but hb (hno _ (mem_own.2 (.inr (.inr (.inr ⟨hn, rfl⟩))))), (h.buf hn).2⟩, h.nbz, h.blen, h.r01, h.r1l, h.esc.but hb hE, h.escl, h.DE, h.RE, h.lo, h.all,
    fun hc => ⟨(h.more hc).1, let ⟨a, ha⟩ := (h.more hc).2.1; ⟨a, Rw.but ha.row hb hR, ha.few, ha.le⟩, (h.more hc).2.2⟩, h.bel.trans (hb.below _ h.bel.size (fun k hk => (hS k hk).2.2)), h.line, Nat.lt_of_lt_of_le h.rlt hb.size⟩, ?_, c.pos, c.sec, c.frm, c.line, c.sk, c.esc, c.av, fun p hp => by simp at hp⟩
  have hs := c.step.but.size
  exact ⟨c.step.but.join hb (fun _ e => e) (fun k hk hlt => by have := (hS k hk).2.1; omega), c.step.nB, c.step.nB', c.step.nE⟩
def c10 (name : List UInt8) (tv fv : Value) : List Value := [str name, tv, fv, str [], .bool false, .bool false, .int .i64 0, .int .i64 0, .bool false, .int .i64 0]
/-- Where impl.entry stands. -/
structure ES (G : Cfg) (L0 : Lay) (w0 : World) (B2 B5 : Nat) (cs : List Value) (tags : List (List UInt8 × List UInt8)) (fields : List (List UInt8 × Nat × List UInt8)) (tv fv : Value) (x s y : Nat) (w : World) (L : Lay) : Prop where
  ch : ChL false G L0 w0 [] x s y 0 w L
  r2 : Rw w B2 zeroC 41
  r5 : Rw w B5 cs 41
  o2 : B2 ∉ own G L ∧ w0.heap.size ≤ B2
  o5 : B5 ∉ own G L ∧ w0.heap.size ≤ B5
  ne : B2 ≠ B5
  rows : ERows w w0.heap.size tags fields tv fv
  tfar : ∀ k, tv.ownBlock = some k → k ∉ own G L
  ffar : ∀ k, fv.ownBlock = some k → k ∉ own G L
  gw : G.w0.heap.size ≤ w0.heap.size
section
variable {G : Cfg} {L0 : Lay} {w0 : World} {B2 B5 : Nat} {cs : List Value} {tags : List (List UInt8 × List UInt8)} {fields : List (List UInt8 × Nat × List UInt8)} {tv fv : Value} {x s y : Nat} {w : World} {L : Lay}
theorem ES.step (h : ES G L0 w0 B2 B5 cs tags fields tv fv x s y w L) {H : List (Option Addr × List UInt8)} {x1 s1 y1 n1 : Nat} {w1 : World} {L1 : Lay} (c : ChL false G L w H x1 s1 y1 n1 w1 L1) : ES G L0 w0 B2 B5 cs tags fields tv fv x1 s1 y1 w1 L1 := by
  have k2 := c.step.keep h.r2 h.o2.1
  have k5 := c.step.keep h.r5 h.o5.1
  have hk : ∀ k, k ∉ own G L → k < w.heap.size → k ∉ own G L1 := fun k h1 h2 h3 => by
    rcases own_next c.step k h3 with e | e
    · exact h1 e
    · omega
  exact ⟨⟨c.dl, h.ch.step.trans c.step, c.pos, c.sec, c.frm, c.line, c.sk, c.esc, .inl rfl, fun p hp => by simp at hp⟩, k2.1, k5.1, ⟨k2.2, h.o2.2⟩, ⟨k5.2, h.o5.2⟩, h.ne, h.rows.but c.step.but h.tfar h.ffar,
    fun k e => hk k (h.tfar k e) (own_base h.rows.tags k e).2.1, fun k e => hk k (h.ffar k e) (own_base h.rows.fields k e).2.1, h.gw⟩
theorem ES.quiet (h : ES G L0 w0 B2 B5 cs tags fields tv fv x s y w L) {w1 : World} (hb : But [] w w1) : ES G L0 w0 B2 B5 cs tags fields tv fv x s y w1 L :=
  h.step (h.ch.restart.quiet hb)
theorem row_ne {w : World} {k R : Nat} {cur : Array Value} {cs : List Value} {t u : TypeId} (h : w.heap[k]? = some (.cells cur t (0, 0))) (hR : Rw w R cs u) (hne : t ≠ u) : k ≠ R := ne_type h hR hne
/-- A store into the entry. -/
theorem ES.put (h : ES G L0 w0 B2 B5 cs tags fields tv fv x s y w L) (j : Nat) (v : Value) : ES G L0 w0 B2 B5 (cs.set j v) tags fields tv fv x s y (w.setCell ⟨B5, j, none⟩ v) L := by
  have hb : But [B5] w (w.setCell ⟨B5, j, none⟩ v) := (But.refl _ w).setCell (Or.inl (by simp)) _
  refine ⟨h.ch.far hb (fun k hk => by simp at hk; subst hk; exact ⟨h.o5.1, h.o5.2, Nat.le_trans h.gw h.o5.2⟩), Rw.but h.r2 hb (by simpa using h.ne), Rw.set h.r5 j v, h.o2, h.o5, h.ne, h.rows.but hb (fun k e => ?_) (fun k e => ?_), h.tfar, h.ffar, h.gw⟩
  · obtain ⟨_, _, cur, hc⟩ := own_base h.rows.tags k e
    simpa using row_ne hc h.r5 (by decide)
  · obtain ⟨_, _, cur, hc⟩ := own_base h.rows.fields k e
    simpa using row_ne hc h.r5 (by decide)
/-- Behind an append. -/
theorem ES.grow (h : ES G L0 w0 B2 B5 cs tags fields tv fv x s y w L) {v0 tv' fv' : Value} {tags' : List (List UInt8 × List UInt8)} {fields' : List (List UInt8 × Nat × List UInt8)} {w2 : World} (hr : ERows w2 w0.heap.size tags' fields' tv' fv')
    (hv : v0 = tv ∨ v0 = fv) (hb : ∀ S : List Nat, (∀ k, v0.ownBlock = some k → k ∈ S) → But S w w2) (ht : ∀ k, tv'.ownBlock = some k → k ∉ own G L) (hf : ∀ k, fv'.ownBlock = some k → k ∉ own G L) : ES G L0 w0 B2 B5 cs tags' fields' tv' fv' x s y w2 L := by
  have hb0 := hb (match v0.ownBlock with | some k => [k] | none => []) (fun k hk => by rw [hk]; simp)
  have hS : ∀ k, k ∈ (match v0.ownBlock with | some k => [k] | none => []) → v0.ownBlock = some k := fun k hk => by
    cases e : v0.ownBlock with
    | none => rw [e] at hk; simp at hk
    | some q => rw [e] at hk; simp at hk; rw [hk]
  have hfar : ∀ k, v0.ownBlock = some k → k ∉ own G L ∧ w0.heap.size ≤ k ∧ k ≠ B2 ∧ k ≠ B5 := fun k hk => by
    rcases hv with rfl | rfl
    · obtain ⟨b1, b2, cur, hc⟩ := own_base h.rows.tags k hk
      exact ⟨h.tfar k hk, b1, row_ne hc h.r2 (by decide), row_ne hc h.r5 (by decide)⟩
    · obtain ⟨b1, b2, cur, hc⟩ := own_base h.rows.fields k hk
      exact ⟨h.ffar k hk, b1, row_ne hc h.r2 (by decide), row_ne hc h.r5 (by decide)⟩
  exact ⟨h.ch.far hb0 (fun k hk => ⟨(hfar k (hS k hk)).1, (hfar k (hS k hk)).2.1, Nat.le_trans h.gw (hfar k (hS k hk)).2.1⟩), Rw.but h.r2 hb0 (fun hk => (hfar _ (hS _ hk)).2.2.1 rfl), Rw.but h.r5 hb0 (fun hk => (hfar _ (hS _ hk)).2.2.2 rfl), h.o2, h.o5, h.ne, hr, ht, hf, h.gw⟩
theorem Rw.ten {w : World} {R : Nat} {v0 v1 v2 v3 v4 v5 v6 v7 v8 v9 : Value} {T : TypeId} (h : Rw w R [v0, v1, v2, v3, v4, v5, v6, v7, v8, v9] T) :
    (w.cell? ⟨R, 0, none⟩ = some v0 ∧ w.cell? ⟨R, 1, none⟩ = some v1 ∧ w.cell? ⟨R, 2, none⟩ = some v2 ∧ w.cell? ⟨R, 3, none⟩ = some v3 ∧ w.cell? ⟨R, 4, none⟩ = some v4 ∧ w.cell? ⟨R, 5, none⟩ = some v5 ∧ w.cell? ⟨R, 6, none⟩ = some v6 ∧ w.cell? ⟨R, 7, none⟩ = some v7 ∧ w.cell? ⟨R, 8, none⟩ = some v8 ∧ w.cell? ⟨R, 9, none⟩ = some v9) ∧ ∀ j, w.frozen? ⟨R, j, none⟩ = false :=
  ⟨⟨Rw.cell h 0, Rw.cell h 1, Rw.cell h 2, Rw.cell h 3, Rw.cell h 4, Rw.cell h 5, Rw.cell h 6, Rw.cell h 7, Rw.cell h 8, Rw.cell h 9⟩, fun j => Rw.fz h j⟩
theorem put10 {w : World} {R : Nat} {T : TypeId} (h : Rw w R zeroC T) (v0 v1 v2 v3 v4 v5 v6 v7 v8 v9 : Value) :
    ∃ W, (((((((((w.setCell ⟨R, 0, none⟩ v0).setCell ⟨R, 1, none⟩ v1).setCell ⟨R, 2, none⟩ v2).setCell ⟨R, 3, none⟩ v3).setCell ⟨R, 4, none⟩ v4).setCell ⟨R, 5, none⟩ v5).setCell ⟨R, 6, none⟩ v6).setCell ⟨R, 7, none⟩ v7).setCell ⟨R, 8, none⟩ v8).setCell ⟨R, 9, none⟩ v9 = W ∧ Rw W R [v0, v1, v2, v3, v4, v5, v6, v7, v8, v9] T ∧ But [R] w W := by
  have b : ∀ (w' : World) (j : Nat) (v : Value), But [R] w w' → But [R] w (w'.setCell ⟨R, j, none⟩ v) := fun w' j v h => h.setCell (Or.inl (by simp)) v
  exact ⟨_, rfl, Rw.set (Rw.set (Rw.set (Rw.set (Rw.set (Rw.set (Rw.set (Rw.set (Rw.set (Rw.set h 0 v0) 1 v1) 2 v2) 3 v3) 4 v4) 5 v5) 6 v6) 7 v7) 8 v8) 9 v9,
    b _ _ _ (b _ _ _ (b _ _ _ (b _ _ _ (b _ _ _ (b _ _ _ (b _ _ _ (b _ _ _ (b _ _ _ (b _ _ _ (But.refl [R] w))))))))))⟩
/-- What is left behind the copy to the result. -/
structure Left (G : Cfg) (L0 : Lay) (w0 : World) (tags : List (List UInt8 × List UInt8)) (fields : List (List UInt8 × Nat × List UInt8)) (tv fv : Value) (x s y : Nat) (w : World) (L : Lay) : Prop where
  ch : ChL false G L0 w0 [] x s y 0 w L
  rows : ERows w w0.heap.size tags fields tv fv
  tfar : ∀ k, tv.ownBlock = some k → k ∉ own G L
  ffar : ∀ k, fv.ownBlock = some k → k ∉ own G L
theorem ES.out2 (h : ES G L0 w0 B2 B5 cs tags fields tv fv x s y w L) {W : World} (hb : But [B2] w W) : Left G L0 w0 tags fields tv fv x s y W L := by
  refine ⟨h.ch.far hb (fun k hk => by simp at hk; subst hk; exact ⟨h.o2.1, h.o2.2, Nat.le_trans h.gw h.o2.2⟩), h.rows.but hb (fun k e => ?_) (fun k e => ?_), h.tfar, h.ffar⟩
  · obtain ⟨_, _, cur, hc⟩ := own_base h.rows.tags k e
    simpa using row_ne hc h.r2 (by decide)
  · obtain ⟨_, _, cur, hc⟩ := own_base h.rows.fields k e
    simpa using row_ne hc h.r2 (by decide)
end
def EntryOut (G : Cfg) (L0 : Lay) (w0 : World) (r : dm.En × dm.M) (e : Ending) (w' : World) : Prop :=
  ∃ (E : dm.En) (tv fv : Value), e = .returned (enV E tv fv) ∧ Hid (∃ x s y L, r = (E, ⟨x, s, y⟩) ∧ (s = 5 ∨ s = 4) ∧ Left G L0 w0 E.tags E.fields tv fv x s y w' L)

theorem left0 {G : Cfg} {L0 : Lay} {w0 : World} {B2 x s y : Nat} {w W : World} {L : Lay} (c : ChL false G L0 w0 [] x s y 0 w L) (h2 : B2 ∉ own G L ∧ w0.heap.size ≤ B2) (gw : G.w0.heap.size ≤ w0.heap.size) (hb : But [B2] w W) : Left G L0 w0 [] [] (.slice none 0 0) (.slice none 0 0) x s y W L :=
  ⟨c.far hb (fun k hk => by simp at hk; subst hk; exact ⟨h2.1, h2.2, Nat.le_trans gw h2.2⟩), ERows.nil _ _, fun k e => (by cases e), fun k e => (by cases e)⟩
theorem sl_eq (a : Addr) (n c : Nat) (w : World) : (binOp .eql 51 (.slice (some a) n c) (.slice none 0 0)).run Tryz.prog w = .ok (.bool false) w := by kernel_rfl
theorem sl_eq0 (w : World) : (binOp .eql 51 (.slice none 0 0) (.slice none 0 0)).run Tryz.prog w = .ok (.bool true) w := by kernel_rfl
theorem sl_ne (a : Addr) (n c : Nat) (w : World) : (binOp .neq 51 (.slice (some a) n c) (.slice none 0 0)).run Tryz.prog w = .ok (.bool true) w := by kernel_rfl
theorem sl_ne0 (w : World) : (binOp .neq 51 (.slice none 0 0) (.slice none 0 0)).run Tryz.prog w = .ok (.bool false) w := by kernel_rfl
theorem nil_str (w : World) : (convert 51 9 (.slice none 0 0)).run Tryz.prog w = .ok (.string ⟨#[]⟩) w := by kernel_rfl
set_option maxRecDepth 100000 in
set_option maxHeartbeats 8000000 in
theorem entry15 (G : Cfg) (hG : Base G) (ho : Ovr G.w0) (L : Lay) (w : World) (H : List (Option Addr × List UInt8)) (x y n : Nat) (c : ChL false G L w H x 0 y n w L) :
    Calls Tryz.prog 15 #[.pointer (some ⟨G.D, 0, none⟩)] w (EntryOut G L w (dm.entryM G.T ⟨x, 0, x⟩)) := by
  obtain ⟨W1, hW1⟩ : ∃ W1, w.alloc (.cells #[.string ⟨#[]⟩, .slice none 0 0, .slice none 0 0, .string ⟨#[]⟩, .bool false, .bool false, .int .i64 0, .int .i64 0, .bool false, .int .i64 0] 41) = W1 := ⟨_, rfl⟩
  have hb1 : But [] w W1 := hW1 ▸ (But.refl [] w).alloc _
  have hR2 : Rw W1 w.heap.size zeroC 41 := hW1 ▸ Rw.new w _ _
  have hc1 : ChL false G L w [] x 0 y n W1 L := (c.quiet hb1).drop
  have h2o : w.heap.size ∉ own G L := fresh_own c.dl (Nat.le_refl _)
  have hgw := c.dl.bel.size
  have HM := Lib.hid (Ch.meas hG y (⟨L, hc1.restart⟩ : Ch false G L W1 [] x 0 y n W1))
  have HG := Lib.hid hG
  have HO := Lib.hid ho
  have H1 := Lib.hid (And.intro hc1 (And.intro hR2 (And.intro h2o hgw)))
  obtain ⟨B2, hB2⟩ : ∃ B2, w.heap.size = B2 := ⟨_, rfl⟩
  rw [hB2] at H1
  have HB2 := Lib.hid hB2
  clear c hG ho hc1 hR2 h2o hgw hb1
  go_enter Tryz.func15, Tryz.ntmps15
  go_wp2_with fail
  refine HM.out.mono ?_
  rintro e w1 ⟨a, n1, cp, v, rfl, hh⟩
  clear HM hW1
  rcases hh.out with ⟨o, x1, s1, y1, hr, hn, rfl, L1, hc⟩ | ⟨l, k, x1, s1, y1, hr, L1, hcl, herr⟩
  rotate_left
  · have HFA := Lib.hid (fault29 G L1 v l k w1 herr HO.out hcl.dl.bel)
    have HR := Lib.hid hr
    obtain ⟨h1a, h1b, h1c, h1d⟩ := H1.out
    have hk2 := hcl.step.keep h1b h1c
    have hc2 : ChL false G L w [] x1 s1 y1 0 w1 L1 := ⟨hcl.dl, h1a.step.trans hcl.step, hcl.pos, hcl.sec, hcl.frm, hcl.line, hcl.sk, hcl.esc, .inl rfl, fun p hp => by simp at hp⟩
    have H2 := Lib.hid (And.intro hc2 (And.intro hk2 h1d))
    obtain ⟨X', Y', ms', rfl, hrest⟩ := herr
    clear hrest hcl hr hh hk2 hc2 h1a h1b h1c h1d
    go_wp2_with fail
    refine HFA.out.mono ?_
    rintro e w3 ⟨rfl, hb3⟩
    have hr3 := Rw.but H2.out.2.1.1 hb3 (by simp)
    obtain ⟨W3, hW3, r3, b3⟩ := put10 hr3 (.string ⟨#[]⟩) (.slice none 0 0) (.slice none 0 0) (.string ⟨#[]⟩) (.bool false) (.bool true) (.int .i64 l) (.int .i64 k) (.bool false) (.int .i64 0)
    obtain ⟨⟨x0, x1', x2', x3, x4, x5, x6, x7, x8, x9⟩, zx⟩ := Rw.ten r3
    obtain ⟨⟨u0, u1, u2, u3, u4, u5, u6, u7, u8, u9⟩, zb⟩ := Rw.ten (show Rw w3 B2 [_, _, _, _, _, _, _, _, _, _] _ from hr3)
    have z0 := zb 0
    have z1 := zb 1
    have z2 := zb 2
    have z3 := zb 3
    have z4 := zb 4
    have z5 := zb 5
    have z6 := zb 6
    have z7 := zb 7
    have z8 := zb 8
    have z9 := zb 9
    have HF := Lib.hid (left0 (H2.out.1.quiet hb3) ⟨H2.out.2.1.2, by rw [HB2.out]; exact Nat.le_refl _⟩ (by rw [HB2.out]; exact H2.out.2.2) b3)
    clear r3 b3 zx zb hr3 hb3 HFA
    go_wp2_with fail
    refine bodyPost_ret (by simp [results, Tryz.results15, go_sem, x0, x1', x2', x3, x4, x5, x6, x7, x8, x9]; rfl) rfl ?_
    exact ⟨{ fault := some (l, k) }, .slice none 0 0, .slice none 0 0, rfl, Lib.hid ⟨x1, s1, y1, L1, by simp [dm.entryM, HR.out], .inr (dm.name_flt (by simp) HR.out), HF.out⟩⟩
  · subst hn
    have hpt := dm.name_some hr
    simp only at hpt
    obtain ⟨hs1, hy1, hx1⟩ := hpt
    subst hs1
    have HMEAS := Lib.hid hr
    have hcv := ((hc.held (a, o) (by simp)).bytes).str cp
    obtain ⟨h1a, h1b, h1c, h1d⟩ := H1.out
    have hk2 := hc.step.keep h1b h1c
    obtain ⟨W5, hW5⟩ : ∃ W5, w1.alloc (.cells #[.string ⟨o.toArray⟩, .slice none 0 0, .slice none 0 0, .string ⟨#[]⟩, .bool false, .bool false, .int .i64 0, .int .i64 0, .bool false, .int .i64 0] 41) = W5 := ⟨_, rfl⟩
    have hb5 : But [] w1 W5 := hW5 ▸ (But.refl [] w1).alloc _
    have hr5 : Rw W5 w1.heap.size (c10 o (.slice none 0 0) (.slice none 0 0)) 41 := hW5 ▸ Rw.new w1 _ _
    have hw1 : w.heap.size ≤ w1.heap.size := Nat.le_trans h1a.step.but.size hc.step.but.size
    have hlt2 := Rw.lt hk2.1
    have hES : ES G L w B2 w1.heap.size (c10 o (.slice none 0 0) (.slice none 0 0)) [] [] (.slice none 0 0) (.slice none 0 0) x1 1 y1 W5 L1 := by
      have hc5 := hc.quiet hb5
      exact ⟨⟨hc5.dl, h1a.step.trans hc5.step, hc5.pos, hc5.sec, hc5.frm, hc5.line, hc5.sk, hc5.esc, .inl rfl, fun p hp => by simp at hp⟩, Rw.but hk2.1 hb5 (by simp), hr5, ⟨hk2.2, by rw [HB2.out]; exact Nat.le_refl _⟩, ⟨fresh_own hc.dl (Nat.le_refl _), hw1⟩, by omega, ERows.nil _ _, fun k e => (by cases e), fun k e => (by cases e), by rw [HB2.out]; exact h1d⟩
    have HE0 : Hid (ES G L w B2 w1.heap.size (c10 o (.slice none 0 0) (.slice none 0 0)) [] [] (.slice none 0 0) (.slice none 0 0) x1 1 y1 W5 L1 ∧ ([] : List (List UInt8 × List UInt8)).length ≤ x1 ∧ ∃ f, G.T.length - x1 < f ∧ dm.tagsM G.T (G.T.length + 1) ⟨x1, 1, y1⟩ = ([] ++ (dm.tagsM G.T f ⟨x1, 1, y1⟩).1, (dm.tagsM G.T f ⟨x1, 1, y1⟩).2)) := Lib.hid ⟨hES, by simp, G.T.length + 1, by omega, by simp⟩
    obtain ⟨B5, hB5⟩ : ∃ B5, w1.heap.size = B5 := ⟨_, rfl⟩
    rw [hB5] at HE0
    have HB5 := Lib.hid hB5
    have HX1 := Lib.hid hx1
    have HW5 := Lib.hid hW5
    clear hh hr hc h1a h1b h1c h1d hk2 hb5 hr5 hw1 hlt2 hES hx1 hy1 hB5 hW5
    go_wp2_with fail
    rw [HW5.out, HB5.out]
    clear hcv
    go_loopg [] (G.T.length - x1) (fun g wr => ∃ (x2 s2 y2 : Nat) (tags : List (List UInt8 × List UInt8)) (tv : Value) (L2 : Lay), g = G.T.length - x2 ∧ (s2 = 1 ∨ s2 = 2) ∧ Hid (ES G L w B2 B5 (c10 o tv (.slice none 0 0)) tags [] tv (.slice none 0 0) x2 s2 y2 wr L2 ∧ tags.length ≤ x2 ∧ ∃ f, G.T.length - x2 < f ∧ dm.tagsM G.T (G.T.length + 1) ⟨x1, 1, y1⟩ = (tags ++ (dm.tagsM G.T f ⟨x2, s2, y2⟩).1, (dm.tagsM G.T f ⟨x2, s2, y2⟩).2)))
    case atStart => exact ⟨x1, 1, y1, [], .slice none 0 0, L1, rfl, .inl rfl, HE0⟩
    case round =>
      obtain ⟨x2, s2, y2, tags, tv, L2, hg, hs, hI⟩ := hrel
      have HTG : Hid (Calls Tryz.prog 30 #[.pointer (some ⟨G.D, 0, none⟩)] wr (TagOut G L2 wr (dm.tagM G.T ⟨x2, s2, y2⟩))) := Lib.hid (by
        rcases hs with rfl | rfl
        · exact Ch.tag HG.out ⟨L2, hI.out.1.ch.restart⟩
        · exact Ch.tag_no HG.out ⟨L2, hI.out.1.ch.restart⟩ (by decide))
      clear HE0
      go_wp2_with fail
      refine HTG.out.mono ?_
      rintro e w1 hT
      clear HTG
      rcases hT with ⟨k, u, x3, s3, y3, a3, c3, a4, c4, rfl, hh⟩ | ⟨rfl, hh⟩ | ⟨v, rfl, hh⟩
      · obtain ⟨hr, hk, L3, hc⟩ := hh.out
        have hts := dm.tag_some hr
        simp only at hts
        have hE1 := hI.out.1.step hc
        have hle3 := hc.le
        have hle2 := hI.out.1.ch.le
        have hcv1 := ((hc.held (a3, k) (by simp)).bytes).str c3
        have hcv2 := ((hc.held (a4, u) (by simp)).bytes).str c4
        have hkl : 0 < k.length := by
          cases k with
          | nil => exact absurd rfl hk
          | cons c t => simp
        obtain ⟨A, off, rfl, hcell⟩ := (hc.held (a3, k) (by simp)).byte hkl
        have hq1 := sl_eq ⟨A, off, none⟩ k.length c3 w1
        have htl := HG.out.tlen
        obtain ⟨g', cap, w2, hrun, hrows, hbS, hgg⟩ := hE1.rows.tag (by have := hI.out.2.1; omega) (Nat.le_trans hE1.ch.step.but.size (Nat.le_refl _)) k u 36
        unfold str at hrun
        have HRUN := Lib.hid hrun
        clear hrun
        have hE2 := hE1.grow hrows (.inl rfl) hbS (fun q e => by
          simp only [Value.ownBlock, Option.some.injEq] at e
          subst e
          rcases hgg with h | h
          · exact hE1.tfar _ h
          · exact fresh_own hE1.ch.dl h) (fun q e => by cases e)
        have hE3 := hE2.put 1 (.slice (some ⟨g', 0, none⟩) (tags.length + 1) cap)
        have hy1 : w1.cell? ⟨B5, 1, none⟩ = some tv := Rw.cell hE1.r5 1
        have hy2 : w2.cell? ⟨B5, 1, none⟩ = some tv := Rw.cell hE2.r5 1
        have hz2 := Rw.fz hE2.r5 1
        obtain ⟨fl, hfl1, hfl2⟩ := hI.out.2.2
        have HREL : Hid (ES G L w B2 B5 (c10 o (.slice (some ⟨g', 0, none⟩) (tags.length + 1) cap) (.slice none 0 0)) (tags ++ [(k, u)]) [] (.slice (some ⟨g', 0, none⟩) (tags.length + 1) cap) (.slice none 0 0) x3 s3 y3 (w2.setCell ⟨B5, 1, none⟩ (.slice (some ⟨g', 0, none⟩) (tags.length + 1) cap)) L3 ∧ (tags ++ [(k, u)]).length ≤ x3 ∧ ∃ f, G.T.length - x3 < f ∧ dm.tagsM G.T (G.T.length + 1) ⟨x1, 1, y1⟩ = ((tags ++ [(k, u)]) ++ (dm.tagsM G.T f ⟨x3, s3, y3⟩).1, (dm.tagsM G.T f ⟨x3, s3, y3⟩).2)) := Lib.hid (by
          refine ⟨hE3, by have := hI.out.2.1; simp; omega, fl - 1, by omega, ?_⟩
          rw [hfl2]
          obtain ⟨f1, rfl⟩ : ∃ f1, fl = f1 + 1 := ⟨fl - 1, by omega⟩
          rw [dm.tagsM, hr]
          simp)
        have HS3 := Lib.hid hts.2.1
        have hms : G.T.length - x3 < gk := by omega
        clear hr hk hc hts hE1 hE2 hE3 hrows hbS hgg hle2 hle3 htl hfl1 hfl2 hcell hI hh hs hkl
        go_wp2_with (at_builtin; refine app_step rfl _ _ _ _ rfl _ _ _ rfl rfl HRUN.out ?_)
        go_roundg (G.T.length - x3)
        case measure => exact hms
        case rel => exact ⟨x3, s3, y3, tags ++ [(k, u)], _, L3, rfl, HS3.out, HREL⟩
      · obtain ⟨x3, s3, y3, hr, L3, hc⟩ := hh.out
        have htn := dm.tag_none (by simp only; omega) hr
        have hs3 : s3 = 2 := by
          rcases htn.2.2.2 with e | e
          · exact e
          · have h2 := htn.1
            simp only [dm.M.mk.injEq] at e h2
            omega
        subst hs3
        obtain ⟨fl, hfl1, hfl2⟩ := hI.out.2.2
        have HTS : Hid (dm.tagsM G.T (G.T.length + 1) ⟨x1, 1, y1⟩ = (tags, none, ⟨x3, 2, y3⟩)) := Lib.hid (by
          rw [hfl2]
          obtain ⟨f1, rfl⟩ : ∃ f1, fl = f1 + 1 := ⟨fl - 1, by omega⟩
          rw [dm.tagsM, hr]
          simp)
        have HE0 : Hid (ES G L w B2 B5 (c10 o tv (.slice none 0 0)) tags [] tv (.slice none 0 0) x3 2 y3 w1 L3 ∧ ([] : List (List UInt8 × Nat × List UInt8)).length ≤ x3 ∧ ∃ f, G.T.length - x3 < f ∧ dm.fieldsM G.T (G.T.length + 1) ⟨x3, 2, y3⟩ = ([] ++ (dm.fieldsM G.T f ⟨x3, 2, y3⟩).1, (dm.fieldsM G.T f ⟨x3, 2, y3⟩).2)) := Lib.hid ⟨hI.out.1.step hc, by simp, G.T.length + 1, by omega, by simp⟩
        have hq1 := sl_eq0 w1
        clear hr hc htn hfl1 hfl2 hI hh hs hg
        go_wp2_with fail
        go_loopg [] (G.T.length - x3) (fun g wr => ∃ (x2 s2 y2 : Nat) (fields : List (List UInt8 × Nat × List UInt8)) (fv : Value) (L2 : Lay), g = G.T.length - x2 ∧ (s2 = 2 ∨ s2 = 3 ∨ s2 = 5) ∧ Hid (ES G L w B2 B5 (c10 o tv fv) tags fields tv fv x2 s2 y2 wr L2 ∧ fields.length ≤ x2 ∧ ∃ f, G.T.length - x2 < f ∧ dm.fieldsM G.T (G.T.length + 1) ⟨x3, 2, y3⟩ = (fields ++ (dm.fieldsM G.T f ⟨x2, s2, y2⟩).1, (dm.fieldsM G.T f ⟨x2, s2, y2⟩).2)))
        case atStart => exact ⟨x3, 2, y3, [], .slice none 0 0, L3, rfl, .inl rfl, HE0⟩
        case round =>
          obtain ⟨x4, s4, y4, fields, fv, L4, hg, hs, hI⟩ := hrel
          have HTG : Hid (Calls Tryz.prog 31 #[.pointer (some ⟨G.D, 0, none⟩)] wr (FieldOut G L4 wr (dm.fieldM G.T ⟨x4, s4, y4⟩))) := Lib.hid (by
            rcases hs with rfl | rfl | rfl
            · exact Ch.field HG.out ⟨L4, hI.out.1.ch.restart⟩
            · exact Ch.field_no HG.out ⟨L4, hI.out.1.ch.restart⟩ (by decide)
            · exact Ch.field_no HG.out ⟨L4, hI.out.1.ch.restart⟩ (by decide))
          clear HE0
          go_wp2_with fail
          refine HTG.out.mono ?_
          rintro e w1 hT
          clear HTG
          rcases hT with ⟨k, kd, u, x5, s5, y5, a3, c3, a4, c4, rfl, hh⟩ | ⟨rfl, hh⟩ | ⟨v, rfl, hh⟩
          · obtain ⟨hr, hk, L5, hc⟩ := hh.out
            have hts := dm.field_some hr
            have hkd := dm.field_kind hr
            simp only at hts hkd
            have hE1 := hI.out.1.step hc
            have hle3 := hc.le
            have hle2 := hI.out.1.ch.le
            have hcv1 := ((hc.held (a3, k) (by simp)).bytes).str c3
            have hcv2 := ((hc.held (a4, u) (by simp)).bytes).str c4
            have hkl : 0 < k.length := by
              cases k with
              | nil => exact absurd rfl hk
              | cons c t => simp
            obtain ⟨A, off, rfl, hcell⟩ := (hc.held (a3, k) (by simp)).byte hkl
            have hq1 := sl_eq ⟨A, off, none⟩ k.length c3 w1
            have htl := HG.out.tlen
            obtain ⟨g', cap, w2, hrun, hrows, hbS, hgg⟩ := hE1.rows.field (by have := hI.out.2.1; omega) (Nat.le_trans hE1.ch.step.but.size (Nat.le_refl _)) k kd u 37
            unfold str at hrun
            have HRUN := Lib.hid hrun
            clear hrun
            have hE2 := hE1.grow hrows (.inr rfl) hbS hE1.tfar (fun q e => by
              simp only [Value.ownBlock, Option.some.injEq] at e
              subst e
              rcases hgg with h | h
              · exact hE1.ffar _ h
              · exact fresh_own hE1.ch.dl h)
            have hE3 := hE2.put 2 (.slice (some ⟨g', 0, none⟩) (fields.length + 1) cap)
            have hy1 : w1.cell? ⟨B5, 2, none⟩ = some fv := Rw.cell hE1.r5 2
            have hy2 : w2.cell? ⟨B5, 2, none⟩ = some fv := Rw.cell hE2.r5 2
            have hz2 := Rw.fz hE2.r5 2
            obtain ⟨fl, hfl1, hfl2⟩ := hI.out.2.2
            have HREL : Hid (ES G L w B2 B5 (c10 o tv (.slice (some ⟨g', 0, none⟩) (fields.length + 1) cap)) tags (fields ++ [(k, kd, u)]) tv (.slice (some ⟨g', 0, none⟩) (fields.length + 1) cap) x5 s5 y5 (w2.setCell ⟨B5, 2, none⟩ (.slice (some ⟨g', 0, none⟩) (fields.length + 1) cap)) L5 ∧ (fields ++ [(k, kd, u)]).length ≤ x5 ∧ ∃ f, G.T.length - x5 < f ∧ dm.fieldsM G.T (G.T.length + 1) ⟨x3, 2, y3⟩ = ((fields ++ [(k, kd, u)]) ++ (dm.fieldsM G.T f ⟨x5, s5, y5⟩).1, (dm.fieldsM G.T f ⟨x5, s5, y5⟩).2)) := Lib.hid (by
              refine ⟨hE3, by have := hI.out.2.1; simp; omega, fl - 1, by omega, ?_⟩
              rw [hfl2]
              obtain ⟨f1, rfl⟩ : ∃ f1, fl = f1 + 1 := ⟨fl - 1, by omega⟩
              rw [dm.fieldsM, hr]
              simp)
            have HS3 := Lib.hid hts.2.1
            have hms : G.T.length - x5 < gk := by omega
            have hkd1 : (kd : Int) ≤ 5 := by omega
            have hkd0 : (0 : Int) ≤ (kd : Int) := by omega
            have hwk : IntKind.i64.wrap (kd : Int) = (kd : Int) := by rw [IntKind.wrap_i64]; omega
            clear hr hk hc hts hE1 hE2 hE3 hrows hbS hgg hle2 hle3 htl hfl1 hfl2 hcell hI hh hs hkl hkd
            go_wp2_with (at_builtin; refine app_step rfl _ _ _ _ rfl _ _ _ rfl rfl HRUN.out ?_)
            go_roundg (G.T.length - x5)
            case measure => exact hms
            case rel => exact ⟨x5, s5, y5, fields ++ [(k, kd, u)], _, L5, rfl, HS3.out, HREL⟩
          · obtain ⟨x5, s5, y5, hr, L5, hc⟩ := hh.out
            have htn := dm.field_none hr
            simp only [dm.M.mk.injEq] at htn
            obtain ⟨hn2, rfl, rfl, rfl⟩ := htn
            obtain ⟨fl, hfl1, hfl2⟩ := hI.out.2.2
            have HFS : Hid (dm.fieldsM G.T (G.T.length + 1) ⟨x3, 2, y3⟩ = (fields, none, ⟨x5, s5, y5⟩)) := Lib.hid (by
              rw [hfl2]
              obtain ⟨f1, rfl⟩ : ∃ f1, fl = f1 + 1 := ⟨fl - 1, by omega⟩
              rw [dm.fieldsM, hr]
              simp)
            have hE5 := hI.out.1.step hc
            have hs35 : s5 = 3 ∨ s5 = 5 := by omega
            have HS35 := Lib.hid hs35
            have HTM : Hid (Calls Tryz.prog 32 #[.pointer (some ⟨G.D, 0, none⟩)] w1 (TimeOut G L5 w1 (dm.timeM G.T ⟨x5, s5, y5⟩))) := Lib.hid (by
              rcases hs35 with rfl | rfl
              · exact Ch.time HG.out ⟨L5, hE5.ch.restart⟩
              · exact Ch.time_no HG.out ⟨L5, hE5.ch.restart⟩ (by decide))
            have HE5 := Lib.hid hE5
            have hq1 := sl_eq0 w1
            clear hr hc hfl1 hfl2 hI hh hs hg hn2 hE5 hs35
            go_wp2_with fail
            refine HTM.out.mono ?_
            rintro e w1 hT
            clear HTM
            rcases hT with ⟨t, x6, s6, y6, a3, c3, rfl, hh⟩ | ⟨rfl, hh⟩ | ⟨v, rfl, hh⟩
            · obtain ⟨hr, hnil, L6, hc⟩ := hh.out
              have hE1 := HE5.out.step hc
              have hcv1 := ((hc.held (a3, t) (by simp)).bytes).str c3
              have HR := Lib.hid hr
              have hp := dm.time_some hr
              simp only at hp
              have HP := Lib.hid hp
              by_cases ht : t = []
              · subst ht
                obtain ⟨rfl, rfl⟩ := hnil rfl
                have hcv0 := nil_str w1
                have hq1 := sl_ne0 w1
                clear hr hc hh hp hcv1 hnil
                obtain ⟨ta, tcp, rfl⟩ := own_form hE1.rows.tags
                obtain ⟨fa, fcp, rfl⟩ := own_form hE1.rows.fields
                have hE9 := ((hE1.put 3 (.string ⟨#[]⟩)).put 4 (.bool false))
                obtain ⟨W9, hW9⟩ : ∃ W9, ((w1.setCell ⟨B5, 3, none⟩ (.string ⟨#[]⟩)).setCell ⟨B5, 4, none⟩ (.bool false)) = W9 := ⟨_, rfl⟩
                rw [hW9] at hE9
                have hq5 := Rw.fz hE1.r5
                have hc5 := hE1.r5
                have f3 := hq5 3
                have g3 := Rw.cell hc5 3
                have f4 := hq5 4
                have g4 := Rw.cell hc5 4
                change _ = some _ at g3
                change _ = some _ at g4
                have r9 : Rw W9 B5 [(.string ⟨o.toArray⟩), (.slice ta tags.length tcp), (.slice fa fields.length fcp), (.string ⟨#[]⟩), (.bool false), (.bool false), (.int .i64 0), (.int .i64 0), (.bool false), (.int .i64 0)] 41 := hE9.r5
                obtain ⟨⟨d0, d1, d2, d3, d4, d5, d6, d7, d8, d9⟩, zz⟩ := Rw.ten r9
                obtain ⟨W3, hW3, r3, b3⟩ := put10 hE9.r2 (.string ⟨o.toArray⟩) (.slice ta tags.length tcp) (.slice fa fields.length fcp) (.string ⟨#[]⟩) (.bool false) (.bool false) (.int .i64 0) (.int .i64 0) (.bool false) (.int .i64 0)
                obtain ⟨⟨e0, e1, e2, e3, e4, e5, e6, e7, e8, e9⟩, zx⟩ := Rw.ten r3
                obtain ⟨⟨u0, u1, u2, u3, u4, u5, u6, u7, u8, u9⟩, zb⟩ := Rw.ten (show Rw W9 B2 [_, _, _, _, _, _, _, _, _, _] _ from hE9.r2)
                have z0 := zb 0
                have z1 := zb 1
                have z2 := zb 2
                have z3 := zb 3
                have z4 := zb 4
                have z5 := zb 5
                have z6 := zb 6
                have z7 := zb 7
                have z8 := zb 8
                have z9 := zb 9
                have HF := Lib.hid (hE9.out2 b3)
                clear r3 b3 zz zx zb hE9 r9 hq5 hc5 hE1
                go_wp2_with fail
                refine bodyPost_ret (v := .agg #[.string ⟨o.toArray⟩, (.slice ta tags.length tcp), (.slice fa fields.length fcp), .string ⟨#[]⟩, .bool false, .bool false, .int .i64 0, .int .i64 0, .bool false, .int .i64 0]) (by simp [results, Tryz.results15, go_sem, e0, e1, e2, e3, e4, e5, e6, e7, e8, e9]) rfl ?_
                exact ⟨{ name := o, tags := tags, fields := fields }, (.slice ta tags.length tcp), (.slice fa fields.length fcp), rfl, Lib.hid ⟨x6, s6, y6, L6, by simp [dm.entryM, HMEAS.out, HTS.out, HFS.out, HR.out], .inl HP.out, HF.out⟩⟩
              · have htl : 0 < t.length := by
                  cases t with
                  | nil => exact absurd rfl ht
                  | cons c0 t => simp
                obtain ⟨A, off, rfl, hcell⟩ := (hc.held (a3, t) (by simp)).byte htl
                have hq1 := sl_ne ⟨A, off, none⟩ t.length c3 w1
                have HTE : Hid (t.isEmpty = false) := Lib.hid (by simpa using ht)
                clear hr hc hh hp hnil hcell ht htl
                obtain ⟨ta, tcp, rfl⟩ := own_form hE1.rows.tags
                obtain ⟨fa, fcp, rfl⟩ := own_form hE1.rows.fields
                have hE9 := ((hE1.put 3 (.string ⟨t.toArray⟩)).put 4 (.bool true))
                obtain ⟨W9, hW9⟩ : ∃ W9, ((w1.setCell ⟨B5, 3, none⟩ (.string ⟨t.toArray⟩)).setCell ⟨B5, 4, none⟩ (.bool true)) = W9 := ⟨_, rfl⟩
                rw [hW9] at hE9
                have hq5 := Rw.fz hE1.r5
                have hc5 := hE1.r5
                have f3 := hq5 3
                have g3 := Rw.cell hc5 3
                have f4 := hq5 4
                have g4 := Rw.cell hc5 4
                change _ = some _ at g3
                change _ = some _ at g4
                have r9 : Rw W9 B5 [(.string ⟨o.toArray⟩), (.slice ta tags.length tcp), (.slice fa fields.length fcp), (.string ⟨t.toArray⟩), (.bool true), (.bool false), (.int .i64 0), (.int .i64 0), (.bool false), (.int .i64 0)] 41 := hE9.r5
                obtain ⟨⟨d0, d1, d2, d3, d4, d5, d6, d7, d8, d9⟩, zz⟩ := Rw.ten r9
                obtain ⟨W3, hW3, r3, b3⟩ := put10 hE9.r2 (.string ⟨o.toArray⟩) (.slice ta tags.length tcp) (.slice fa fields.length fcp) (.string ⟨t.toArray⟩) (.bool true) (.bool false) (.int .i64 0) (.int .i64 0) (.bool false) (.int .i64 0)
                obtain ⟨⟨e0, e1, e2, e3, e4, e5, e6, e7, e8, e9⟩, zx⟩ := Rw.ten r3
                obtain ⟨⟨u0, u1, u2, u3, u4, u5, u6, u7, u8, u9⟩, zb⟩ := Rw.ten (show Rw W9 B2 [_, _, _, _, _, _, _, _, _, _] _ from hE9.r2)
                have z0 := zb 0
                have z1 := zb 1
                have z2 := zb 2
                have z3 := zb 3
                have z4 := zb 4
                have z5 := zb 5
                have z6 := zb 6
                have z7 := zb 7
                have z8 := zb 8
                have z9 := zb 9
                have HF := Lib.hid (hE9.out2 b3)
                clear r3 b3 zz zx zb hE9 r9 hq5 hc5 hE1
                go_wp2_with fail
                refine bodyPost_ret (v := .agg #[.string ⟨o.toArray⟩, (.slice ta tags.length tcp), (.slice fa fields.length fcp), .string ⟨t.toArray⟩, .bool true, .bool false, .int .i64 0, .int .i64 0, .bool false, .int .i64 0]) (by simp [results, Tryz.results15, go_sem, e0, e1, e2, e3, e4, e5, e6, e7, e8, e9]) rfl ?_
                exact ⟨{ name := o, tags := tags, fields := fields, time := t }, (.slice ta tags.length tcp), (.slice fa fields.length fcp), by simp [enV, enC, str, flC, HTE.out], Lib.hid ⟨x6, s6, y6, L6, by simp [dm.entryM, HMEAS.out, HTS.out, HFS.out, HR.out], .inl HP.out, HF.out⟩⟩
            · obtain ⟨x6, s6, y6, hr, L6, hc⟩ := hh.out
              have hE1 := HE5.out.step hc
              have hcv0 := nil_str w1
              have hq1 := sl_ne0 w1
              have HR := Lib.hid hr
              have htn := dm.time_none hr
              simp only [dm.M.mk.injEq] at htn
              have HP : Hid (s6 = 5) := Lib.hid (by have := HS35.out; omega)
              clear hr hc hh htn
              obtain ⟨ta, tcp, rfl⟩ := own_form hE1.rows.tags
              obtain ⟨fa, fcp, rfl⟩ := own_form hE1.rows.fields
              have hE9 := ((hE1.put 3 (.string ⟨#[]⟩)).put 4 (.bool false))
              obtain ⟨W9, hW9⟩ : ∃ W9, ((w1.setCell ⟨B5, 3, none⟩ (.string ⟨#[]⟩)).setCell ⟨B5, 4, none⟩ (.bool false)) = W9 := ⟨_, rfl⟩
              rw [hW9] at hE9
              have hq5 := Rw.fz hE1.r5
              have hc5 := hE1.r5
              have f3 := hq5 3
              have g3 := Rw.cell hc5 3
              have f4 := hq5 4
              have g4 := Rw.cell hc5 4
              change _ = some _ at g3
              change _ = some _ at g4
              have r9 : Rw W9 B5 [(.string ⟨o.toArray⟩), (.slice ta tags.length tcp), (.slice fa fields.length fcp), (.string ⟨#[]⟩), (.bool false), (.bool false), (.int .i64 0), (.int .i64 0), (.bool false), (.int .i64 0)] 41 := hE9.r5
              obtain ⟨⟨d0, d1, d2, d3, d4, d5, d6, d7, d8, d9⟩, zz⟩ := Rw.ten r9
              obtain ⟨W3, hW3, r3, b3⟩ := put10 hE9.r2 (.string ⟨o.toArray⟩) (.slice ta tags.length tcp) (.slice fa fields.length fcp) (.string ⟨#[]⟩) (.bool false) (.bool false) (.int .i64 0) (.int .i64 0) (.bool false) (.int .i64 0)
              obtain ⟨⟨e0, e1, e2, e3, e4, e5, e6, e7, e8, e9⟩, zx⟩ := Rw.ten r3
              obtain ⟨⟨u0, u1, u2, u3, u4, u5, u6, u7, u8, u9⟩, zb⟩ := Rw.ten (show Rw W9 B2 [_, _, _, _, _, _, _, _, _, _] _ from hE9.r2)
              have z0 := zb 0
              have z1 := zb 1
              have z2 := zb 2
              have z3 := zb 3
              have z4 := zb 4
              have z5 := zb 5
              have z6 := zb 6
              have z7 := zb 7
              have z8 := zb 8
              have z9 := zb 9
              have HF := Lib.hid (hE9.out2 b3)
              clear r3 b3 zz zx zb hE9 r9 hq5 hc5 hE1
              go_wp2_with fail
              refine bodyPost_ret (v := .agg #[.string ⟨o.toArray⟩, (.slice ta tags.length tcp), (.slice fa fields.length fcp), .string ⟨#[]⟩, .bool false, .bool false, .int .i64 0, .int .i64 0, .bool false, .int .i64 0]) (by simp [results, Tryz.results15, go_sem, e0, e1, e2, e3, e4, e5, e6, e7, e8, e9]) rfl ?_
              exact ⟨{ name := o, tags := tags, fields := fields }, (.slice ta tags.length tcp), (.slice fa fields.length fcp), rfl, Lib.hid ⟨x6, s6, y6, L6, by simp [dm.entryM, HMEAS.out, HTS.out, HFS.out, HR.out], .inl HP.out, HF.out⟩⟩
            · have hES := HE5.out
              obtain ⟨l, k, x7, s7, y7, hr, L7, hcl, herr⟩ := hh.out
              have hE1 := hES.step hcl
              have HFA := Lib.hid (fault29 G L7 v l k w1 herr HO.out hcl.dl.bel)
              have HR := Lib.hid hr
              obtain ⟨X', Y', ms', rfl, hrest⟩ := herr
              have HE1 := Lib.hid hE1
              clear hrest hcl hE1 hr hh hES
              go_wp2_with fail
              refine HFA.out.mono ?_
              rintro e w3 ⟨rfl, hb3⟩
              have hE3 := HE1.out.quiet hb3
              clear hb3 HFA
              obtain ⟨ta, tcp, rfl⟩ := own_form hE3.rows.tags
              obtain ⟨fa, fcp, rfl⟩ := own_form hE3.rows.fields
              have hE9 := (((((hE3.put 5 (.bool true)).put 6 (.int .i64 l)).put 7 (.int .i64 k)).put 8 (.bool false)).put 9 (.int .i64 3))
              obtain ⟨W9, hW9⟩ : ∃ W9, (((((w3.setCell ⟨B5, 5, none⟩ (.bool true)).setCell ⟨B5, 6, none⟩ (.int .i64 l)).setCell ⟨B5, 7, none⟩ (.int .i64 k)).setCell ⟨B5, 8, none⟩ (.bool false)).setCell ⟨B5, 9, none⟩ (.int .i64 3)) = W9 := ⟨_, rfl⟩
              rw [hW9] at hE9
              have hq5 := Rw.fz hE3.r5
              have hc5 := hE3.r5
              have f5 := hq5 5
              have g5 := Rw.cell hc5 5
              have f6 := hq5 6
              have g6 := Rw.cell hc5 6
              have f7 := hq5 7
              have g7 := Rw.cell hc5 7
              have f8 := hq5 8
              have g8 := Rw.cell hc5 8
              have f9 := hq5 9
              have g9 := Rw.cell hc5 9
              change _ = some _ at g5
              change _ = some _ at g6
              change _ = some _ at g7
              change _ = some _ at g8
              change _ = some _ at g9
              have r9 : Rw W9 B5 [(.string ⟨o.toArray⟩), (.slice ta tags.length tcp), (.slice fa fields.length fcp), (.string ⟨#[]⟩), (.bool false), (.bool true), (.int .i64 l), (.int .i64 k), (.bool false), (.int .i64 3)] 41 := hE9.r5
              obtain ⟨⟨d0, d1, d2, d3, d4, d5, d6, d7, d8, d9⟩, zz⟩ := Rw.ten r9
              obtain ⟨W3, hW3, r3, b3⟩ := put10 hE9.r2 (.string ⟨o.toArray⟩) (.slice ta tags.length tcp) (.slice fa fields.length fcp) (.string ⟨#[]⟩) (.bool false) (.bool true) (.int .i64 l) (.int .i64 k) (.bool false) (.int .i64 3)
              obtain ⟨⟨e0, e1, e2, e3, e4, e5, e6, e7, e8, e9⟩, zx⟩ := Rw.ten r3
              obtain ⟨⟨u0, u1, u2, u3, u4, u5, u6, u7, u8, u9⟩, zb⟩ := Rw.ten (show Rw W9 B2 [_, _, _, _, _, _, _, _, _, _] _ from hE9.r2)
              have z0 := zb 0
              have z1 := zb 1
              have z2 := zb 2
              have z3 := zb 3
              have z4 := zb 4
              have z5 := zb 5
              have z6 := zb 6
              have z7 := zb 7
              have z8 := zb 8
              have z9 := zb 9
              have HF := Lib.hid (hE9.out2 b3)
              clear r3 b3 zz zx zb hE9 r9 hq5 hc5 hE3
              go_wp2_with fail
              refine bodyPost_ret (v := .agg #[.string ⟨o.toArray⟩, (.slice ta tags.length tcp), (.slice fa fields.length fcp), .string ⟨#[]⟩, .bool false, .bool true, .int .i64 l, .int .i64 k, .bool false, .int .i64 3]) (by simp [results, Tryz.results15, go_sem, e0, e1, e2, e3, e4, e5, e6, e7, e8, e9]) rfl ?_
              exact ⟨{ name := o, tags := tags, fields := fields, fault := some (l, k), at_ := 3 }, (.slice ta tags.length tcp), (.slice fa fields.length fcp), rfl, Lib.hid ⟨x7, s7, y7, L7, by simp [dm.entryM, HMEAS.out, HTS.out, HFS.out, HR.out], dm.time_flt HR.out, HF.out⟩⟩
          · have hES := hI.out.1
            obtain ⟨fl, hfl1, hfl2⟩ := hI.out.2.2
            have HFX := Lib.hid (And.intro hfl1 hfl2)
            clear hI hfl1 hfl2
            obtain ⟨l, k, x7, s7, y7, hr, L7, hcl, herr⟩ := hh.out
            have hE1 := hES.step hcl
            have HFA := Lib.hid (fault29 G L7 v l k w1 herr HO.out hcl.dl.bel)
            have HR := Lib.hid hr
            obtain ⟨X', Y', ms', rfl, hrest⟩ := herr
            have HE1 := Lib.hid hE1
            clear hrest hcl hE1 hr hh hES
            go_wp2_with fail
            refine HFA.out.mono ?_
            rintro e w3 ⟨rfl, hb3⟩
            have hE3 := HE1.out.quiet hb3
            clear hb3 HFA
            obtain ⟨ta, tcp, rfl⟩ := own_form hE3.rows.tags
            obtain ⟨fa, fcp, rfl⟩ := own_form hE3.rows.fields
            have hE9 := (((((hE3.put 5 (.bool true)).put 6 (.int .i64 l)).put 7 (.int .i64 k)).put 8 (.bool false)).put 9 (.int .i64 2))
            obtain ⟨W9, hW9⟩ : ∃ W9, (((((w3.setCell ⟨B5, 5, none⟩ (.bool true)).setCell ⟨B5, 6, none⟩ (.int .i64 l)).setCell ⟨B5, 7, none⟩ (.int .i64 k)).setCell ⟨B5, 8, none⟩ (.bool false)).setCell ⟨B5, 9, none⟩ (.int .i64 2)) = W9 := ⟨_, rfl⟩
            rw [hW9] at hE9
            have hq5 := Rw.fz hE3.r5
            have hc5 := hE3.r5
            have f5 := hq5 5
            have g5 := Rw.cell hc5 5
            have f6 := hq5 6
            have g6 := Rw.cell hc5 6
            have f7 := hq5 7
            have g7 := Rw.cell hc5 7
            have f8 := hq5 8
            have g8 := Rw.cell hc5 8
            have f9 := hq5 9
            have g9 := Rw.cell hc5 9
            change _ = some _ at g5
            change _ = some _ at g6
            change _ = some _ at g7
            change _ = some _ at g8
            change _ = some _ at g9
            have r9 : Rw W9 B5 [(.string ⟨o.toArray⟩), (.slice ta tags.length tcp), (.slice fa fields.length fcp), (.string ⟨#[]⟩), (.bool false), (.bool true), (.int .i64 l), (.int .i64 k), (.bool false), (.int .i64 2)] 41 := hE9.r5
            obtain ⟨⟨d0, d1, d2, d3, d4, d5, d6, d7, d8, d9⟩, zz⟩ := Rw.ten r9
            obtain ⟨W3, hW3, r3, b3⟩ := put10 hE9.r2 (.string ⟨o.toArray⟩) (.slice ta tags.length tcp) (.slice fa fields.length fcp) (.string ⟨#[]⟩) (.bool false) (.bool true) (.int .i64 l) (.int .i64 k) (.bool false) (.int .i64 2)
            obtain ⟨⟨e0, e1, e2, e3, e4, e5, e6, e7, e8, e9⟩, zx⟩ := Rw.ten r3
            obtain ⟨⟨u0, u1, u2, u3, u4, u5, u6, u7, u8, u9⟩, zb⟩ := Rw.ten (show Rw W9 B2 [_, _, _, _, _, _, _, _, _, _] _ from hE9.r2)
            have z0 := zb 0
            have z1 := zb 1
            have z2 := zb 2
            have z3 := zb 3
            have z4 := zb 4
            have z5 := zb 5
            have z6 := zb 6
            have z7 := zb 7
            have z8 := zb 8
            have z9 := zb 9
            have HF := Lib.hid (hE9.out2 b3)
            clear r3 b3 zz zx zb hE9 r9 hq5 hc5 hE3
            go_wp2_with fail
            refine bodyPost_ret (v := .agg #[.string ⟨o.toArray⟩, (.slice ta tags.length tcp), (.slice fa fields.length fcp), .string ⟨#[]⟩, .bool false, .bool true, .int .i64 l, .int .i64 k, .bool false, .int .i64 2]) (by simp [results, Tryz.results15, go_sem, e0, e1, e2, e3, e4, e5, e6, e7, e8, e9]) rfl ?_
            have HFS : dm.fieldsM G.T (G.T.length + 1) ⟨x3, 2, y3⟩ = (fields, some (l, k), ⟨x7, s7, y7⟩) := by
              rw [HFX.out.2]
              obtain ⟨f1, rfl⟩ : ∃ f1, fl = f1 + 1 := ⟨fl - 1, by have := HFX.out.1; omega⟩
              rw [dm.fieldsM, HR.out]
              simp
            exact ⟨{ name := o, tags := tags, fields := fields, fault := some (l, k), at_ := 2 }, (.slice ta tags.length tcp), (.slice fa fields.length fcp), rfl, Lib.hid ⟨x7, s7, y7, L7, by simp [dm.entryM, HMEAS.out, HTS.out, HFS], .inr (dm.field_flt HR.out), HF.out⟩⟩
      · have hES := hI.out.1
        obtain ⟨fl, hfl1, hfl2⟩ := hI.out.2.2
        have HFX := Lib.hid (And.intro hfl1 hfl2)
        clear hI hfl1 hfl2
        obtain ⟨l, k, x7, s7, y7, hr, L7, hcl, herr⟩ := hh.out
        have hE1 := hES.step hcl
        have HFA := Lib.hid (fault29 G L7 v l k w1 herr HO.out hcl.dl.bel)
        have HR := Lib.hid hr
        obtain ⟨X', Y', ms', rfl, hrest⟩ := herr
        have HE1 := Lib.hid hE1
        clear hrest hcl hE1 hr hh hES
        go_wp2_with fail
        refine HFA.out.mono ?_
        rintro e w3 ⟨rfl, hb3⟩
        have hE3 := HE1.out.quiet hb3
        clear hb3 HFA
        obtain ⟨ta, tcp, rfl⟩ := own_form hE3.rows.tags
        have hE9 := (((((hE3.put 5 (.bool true)).put 6 (.int .i64 l)).put 7 (.int .i64 k)).put 8 (.bool false)).put 9 (.int .i64 1))
        obtain ⟨W9, hW9⟩ : ∃ W9, (((((w3.setCell ⟨B5, 5, none⟩ (.bool true)).setCell ⟨B5, 6, none⟩ (.int .i64 l)).setCell ⟨B5, 7, none⟩ (.int .i64 k)).setCell ⟨B5, 8, none⟩ (.bool false)).setCell ⟨B5, 9, none⟩ (.int .i64 1)) = W9 := ⟨_, rfl⟩
        rw [hW9] at hE9
        have hq5 := Rw.fz hE3.r5
        have hc5 := hE3.r5
        have f5 := hq5 5
        have g5 := Rw.cell hc5 5
        have f6 := hq5 6
        have g6 := Rw.cell hc5 6
        have f7 := hq5 7
        have g7 := Rw.cell hc5 7
        have f8 := hq5 8
        have g8 := Rw.cell hc5 8
        have f9 := hq5 9
        have g9 := Rw.cell hc5 9
        change _ = some _ at g5
        change _ = some _ at g6
        change _ = some _ at g7
        change _ = some _ at g8
        change _ = some _ at g9
        have r9 : Rw W9 B5 [(.string ⟨o.toArray⟩), (.slice ta tags.length tcp), (.slice none 0 0), (.string ⟨#[]⟩), (.bool false), (.bool true), (.int .i64 l), (.int .i64 k), (.bool false), (.int .i64 1)] 41 := hE9.r5
        obtain ⟨⟨d0, d1, d2, d3, d4, d5, d6, d7, d8, d9⟩, zz⟩ := Rw.ten r9
        obtain ⟨W3, hW3, r3, b3⟩ := put10 hE9.r2 (.string ⟨o.toArray⟩) (.slice ta tags.length tcp) (.slice none 0 0) (.string ⟨#[]⟩) (.bool false) (.bool true) (.int .i64 l) (.int .i64 k) (.bool false) (.int .i64 1)
        obtain ⟨⟨e0, e1, e2, e3, e4, e5, e6, e7, e8, e9⟩, zx⟩ := Rw.ten r3
        obtain ⟨⟨u0, u1, u2, u3, u4, u5, u6, u7, u8, u9⟩, zb⟩ := Rw.ten (show Rw W9 B2 [_, _, _, _, _, _, _, _, _, _] _ from hE9.r2)
        have z0 := zb 0
        have z1 := zb 1
        have z2 := zb 2
        have z3 := zb 3
        have z4 := zb 4
        have z5 := zb 5
        have z6 := zb 6
        have z7 := zb 7
        have z8 := zb 8
        have z9 := zb 9
        have HF := Lib.hid (hE9.out2 b3)
        clear r3 b3 zz zx zb hE9 r9 hq5 hc5 hE3
        go_wp2_with fail
        refine bodyPost_ret (v := .agg #[.string ⟨o.toArray⟩, (.slice ta tags.length tcp), (.slice none 0 0), .string ⟨#[]⟩, .bool false, .bool true, .int .i64 l, .int .i64 k, .bool false, .int .i64 1]) (by simp [results, Tryz.results15, go_sem, e0, e1, e2, e3, e4, e5, e6, e7, e8, e9]) rfl ?_
        have HTS : dm.tagsM G.T (G.T.length + 1) ⟨x1, 1, y1⟩ = (tags, some (l, k), ⟨x7, s7, y7⟩) := by
          rw [HFX.out.2]
          obtain ⟨f1, rfl⟩ : ∃ f1, fl = f1 + 1 := ⟨fl - 1, by have := HFX.out.1; omega⟩
          rw [dm.tagsM, HR.out]
          simp
        exact ⟨{ name := o, tags := tags, fault := some (l, k), at_ := 1 }, (.slice ta tags.length tcp), (.slice none 0 0), rfl, Lib.hid ⟨x7, s7, y7, L7, by simp [dm.entryM, HMEAS.out, HTS], .inr (dm.tag_flt HR.out), HF.out⟩⟩
end Go.Proofs.YtlcbcgillekphaaGreatDoor.dec
