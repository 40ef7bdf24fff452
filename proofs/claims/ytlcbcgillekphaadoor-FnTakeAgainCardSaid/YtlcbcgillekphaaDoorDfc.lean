/-
  Proved: the contract of impl.TakeEsc.
  Conditions: a text of at most 2000 bytes, sizes of at most 100 pieces in memory.
-/
import Derived.Test.YtlcbcgillekphaaDoorDfb
namespace Go.Proofs.YtlcbcgillekphaaDoor.dec
open Go.RowKit Mem rw
set_option linter.unusedVariables false

theorem catch14 (p0 p1 p2 p3 p4 : Addr) (w : World) :
    CallsD Tryd.prog 14 #[.pointer (some p0), .pointer (some p1), .pointer (some p2), .pointer (some p3), .pointer (some p4)] .returning w fun e u' w' => e = .returned (.tuple #[]) ∧ u' = .returning ∧ w = w' := by
  refine callsD_of_wpS Tryd.func14 rfl fun c₀ cs hu => ?_
  apply wpS_seq
  apply wpS_region
  simp [wpOpsS, go_sem, recoverD, hu, Tryd.ntmps14, Exit.thenS]
  refine wpS_cond (t := false) (by simp [Act.eval, Array.replicate]) ?_
  simp only [Bool.false_eq_true, if_false]
  refine wpS_of_wp (wp_skip ?_)
  cases c₀
  simp_all [bodyPostS, results, Tryd.results14]
/-- What is told of a token. -/
def teOut (k : Nat) (b : Bool) (l : List UInt8) : List UInt8 := if b = true then l.take (dm.tok k l).2 else (dm.tok k l).1
def teLn (k : Nat) (l : List UInt8) : Nat := if dm.inS (dm.setOf k) 10 = true then dm.breaks (l.take (dm.tok k l).2) else 0
/-- Five blocks of one cell are stored into. -/
theorem five_put (W : World) (p : Nat) (u0 u1 u2 u3 u4 v0 v1 v2 v3 v4 : Value) (k0 : W.cell? ⟨p, 0, none⟩ = some u0) (k1 : W.cell? ⟨p + 1, 0, none⟩ = some u1) (k2 : W.cell? ⟨p + 1 + 1, 0, none⟩ = some u2) (k3 : W.cell? ⟨p + 1 + 1 + 1, 0, none⟩ = some u3) (k4 : W.cell? ⟨p + 1 + 1 + 1 + 1, 0, none⟩ = some u4) (W9 : World)
    (h : ((((W.setCell ⟨p, 0, none⟩ v0).setCell ⟨p + 1, 0, none⟩ v1).setCell ⟨p + 1 + 1, 0, none⟩ v2).setCell ⟨p + 1 + 1 + 1, 0, none⟩ v3).setCell ⟨p + 1 + 1 + 1 + 1, 0, none⟩ v4 = W9) :
    W9.cell? ⟨p, 0, none⟩ = some v0 ∧ W9.cell? ⟨p + 1, 0, none⟩ = some v1 ∧ W9.cell? ⟨p + 1 + 1, 0, none⟩ = some v2 ∧ W9.cell? ⟨p + 1 + 1 + 1, 0, none⟩ = some v3 ∧ W9.cell? ⟨p + 1 + 1 + 1 + 1, 0, none⟩ = some v4 ∧ Below p W W9 := by
  subst h
  refine ⟨?_, ?_, ?_, ?_, ?_, ?_⟩
  · rw [World.cell?_setCell_other _ _ _ _ (by simp), World.cell?_setCell_other _ _ _ _ (by simp), World.cell?_setCell_other _ _ _ _ (by simp), World.cell?_setCell_other _ _ _ _ (by simp)]
    exact World.cell?_setCell_same _ _ _ k0
  · rw [World.cell?_setCell_other _ _ _ _ (by simp), World.cell?_setCell_other _ _ _ _ (by simp), World.cell?_setCell_other _ _ _ _ (by simp)]
    exact World.cell?_setCell_same _ _ _ ((World.cell?_setCell_other _ _ _ _ (by simp)).trans k1)
  · rw [World.cell?_setCell_other _ _ _ _ (by simp), World.cell?_setCell_other _ _ _ _ (by simp)]
    exact World.cell?_setCell_same _ _ _ ((World.cell?_setCell_other _ _ _ _ (by simp)).trans ((World.cell?_setCell_other _ _ _ _ (by simp)).trans k2))
  · rw [World.cell?_setCell_other _ _ _ _ (by simp)]
    exact World.cell?_setCell_same _ _ _ ((World.cell?_setCell_other _ _ _ _ (by simp)).trans ((World.cell?_setCell_other _ _ _ _ (by simp)).trans ((World.cell?_setCell_other _ _ _ _ (by simp)).trans k3)))
  · exact World.cell?_setCell_same _ _ _ ((World.cell?_setCell_other _ _ _ _ (by simp)).trans ((World.cell?_setCell_other _ _ _ _ (by simp)).trans ((World.cell?_setCell_other _ _ _ _ (by simp)).trans ((World.cell?_setCell_other _ _ _ _ (by simp)).trans k4))))
  · exact (((((Below.refl p W).setCell (Nat.le_refl _) _).setCell (by show p ≤ p + 1; omega) _).setCell (by show p ≤ p + 1 + 1; omega) _).setCell (by show p ≤ p + 1 + 1 + 1; omega) _).setCell (by show p ≤ p + 1 + 1 + 1 + 1; omega) _
theorem five_new (w : World) (T0 T1 T2 T3 T4 : TypeId) (u0 u1 u2 u3 u4 : Value) (W : World)
    (h : ((((w.alloc (.cells #[u0] T0)).alloc (.cells #[u1] T1)).alloc (.cells #[u2] T2)).alloc (.cells #[u3] T3)).alloc (.cells #[u4] T4) = W) :
    Rw W w.heap.size [u0] T0 ∧ Rw W (w.heap.size + 1) [u1] T1 ∧ Rw W (w.heap.size + 2) [u2] T2 ∧ Rw W (w.heap.size + 3) [u3] T3 ∧ Rw W (w.heap.size + 4) [u4] T4 ∧ But [] w W ∧ W.heap.size = w.heap.size + 5 := by
  obtain ⟨w1, h1⟩ : ∃ w1, w.alloc (.cells #[u0] T0) = w1 := ⟨_, rfl⟩
  obtain ⟨w2, h2⟩ : ∃ w2, w1.alloc (.cells #[u1] T1) = w2 := ⟨_, rfl⟩
  obtain ⟨w3, h3⟩ : ∃ w3, w2.alloc (.cells #[u2] T2) = w3 := ⟨_, rfl⟩
  obtain ⟨w4, h4⟩ : ∃ w4, w3.alloc (.cells #[u3] T3) = w4 := ⟨_, rfl⟩
  rw [h1, h2, h3, h4] at h
  have r0 := Rw.new w [u0] T0
  have r1 := Rw.new w1 [u1] T1
  have r2 := Rw.new w2 [u2] T2
  have r3 := Rw.new w3 [u3] T3
  have r4 := Rw.new w4 [u4] T4
  have b0 := (But.refl [] w).alloc (.cells #[u0] T0)
  have b1 := (But.refl [] w1).alloc (.cells #[u1] T1)
  have b2 := (But.refl [] w2).alloc (.cells #[u2] T2)
  have b3 := (But.refl [] w3).alloc (.cells #[u3] T3)
  have b4 := (But.refl [] w4).alloc (.cells #[u4] T4)
  have s0 := alloc_size w (.cells #[u0] T0)
  have s1 := alloc_size w1 (.cells #[u1] T1)
  have s2 := alloc_size w2 (.cells #[u2] T2)
  have s3 := alloc_size w3 (.cells #[u3] T3)
  have s4 := alloc_size w4 (.cells #[u4] T4)
  rw [h1] at r0 b0 s0
  rw [h2] at r1 b1 s1
  rw [h3] at r2 b2 s2
  rw [h4] at r3 b3 s3
  rw [h] at r4 b4 s4
  rw [s0] at r1 s1
  rw [s1] at r2 s2
  rw [s2] at r3 s3
  rw [s3] at r4 s4
  exact ⟨Rw.but (Rw.but (Rw.but (Rw.but r0 b1 (by simp)) b2 (by simp)) b3 (by simp)) b4 (by simp), Rw.but (Rw.but (Rw.but r1 b2 (by simp)) b3 (by simp)) b4 (by simp), Rw.but (Rw.but r2 b3 (by simp)) b4 (by simp), Rw.but r3 b4 (by simp), r4, (((b0.trans b1).trans b2).trans b3).trans b4, s4⟩
set_option maxRecDepth 100000 in
set_option maxHeartbeats 4000000 in
theorem takeEsc6 (k : Nat) (hk : k ≤ 4) (s : ByteArray) (hs : s.size ≤ 2000) (sa : Option Addr) (zs : List Int) (sc : Nat) (b : Bool) (w : World) (ev : Addr) (hc : Ctx w ev) (hz : SzAt w sa zs) :
    Calls Tryd.prog 6 #[.int .i64 k, .string s, .slice sa zs.length sc, .bool b] w fun e w' =>
      e = .returned (.tuple #[.string ⟨(teOut k b s.data.toList).toArray⟩, .int .i64 ((dm.tok k s.data.toList).2 : Int), .int .i64 (teLn k s.data.toList : Int), .bool (!utf.V (teOut k b s.data.toList)), .bool true]) ∧ Below w.heap.size w w' := by
  have hmf : ∀ (fn : Fn) (first cap : Array Value) (w : World), (Instr.makeFunc fn first cap).run Tryd.prog w = .ok (.func fn first cap) w := fun _ _ _ _ => rfl
  obtain ⟨W5, hW5⟩ : ∃ W5, ((((w.alloc (.cells #[.string ⟨#[]⟩] 9)).alloc (.cells #[.int .i64 0] 3)).alloc (.cells #[.int .i64 0] 3)).alloc (.cells #[.bool false] 4)).alloc (.cells #[.bool false] 4) = W5 := ⟨_, rfl⟩
  obtain ⟨r0, r1, r2, r3, r4, hb5, hs5⟩ := five_new w _ _ _ _ _ _ _ _ _ _ W5 hW5
  have HD := Lib.hid (decoder15 s (by omega) sa zs sc W5 ev (hc.below hb5.toBelow (Nat.le_refl _)) (hz.below hb5.toBelow))
  have HR := Lib.hid (And.intro r0 (And.intro r1 (And.intro r2 (And.intro r3 (And.intro r4 (And.intro hb5 hs5))))))
  obtain ⟨n, hn⟩ : ∃ n, zs.length = n := ⟨_, rfl⟩
  rw [hn] at HD ⊢
  obtain ⟨q0, hq0⟩ : ∃ q0, (dm.tok k s.data.toList).2 = q0 := ⟨_, rfl⟩
  obtain ⟨tl, htl⟩ : ∃ tl, teLn k s.data.toList = tl := ⟨_, rfl⟩
  obtain ⟨out, hout⟩ : ∃ out, teOut k b s.data.toList = out := ⟨_, rfl⟩
  rw [hq0, htl, hout]
  obtain ⟨os, hos⟩ : ∃ os : ByteArray, (⟨out.toArray⟩ : ByteArray) = os := ⟨_, rfl⟩
  obtain ⟨fl, hfl⟩ : ∃ fl, utf.V out = fl := ⟨_, rfl⟩
  rw [hos, hfl]
  have HNM := Lib.hid (And.intro hq0 (And.intro htl (And.intro hout (And.intro hos hfl))))
  clear hq0 htl hout hos hfl
  clear hc hz r0 r1 r2 r3 r4 hb5 hs5 hn
  go_enter_defers Tryd.func6, Tryd.ntmps6
  go_wp2_with (fail)
  refine HD.out.mono ?_
  rintro e w6 ⟨G, L, rfl, hO⟩
  obtain ⟨d1, d2, d3, d4, d5⟩ := hO.out
  have HT := Lib.hid (dte16 G d1 L w6 d2 k hk b (by rw [d5.esc]; simp) (by rw [d5.line]; omega))
  clear hO d2
  go_wp2_with (fail)
  refine HT.out.mono ?_
  rintro e w7 ⟨a, m, c7, v, rfl, hE⟩
  obtain ⟨w2, L', o, q, hE⟩ := hE.out
  have HP := Lib.hid (place17 G d1 L' w7 hE.dl)
  go_wp2_with (fail)
  refine HP.out.mono ?_
  rintro e w8 ⟨rfl, nd, rfl⟩
  obtain ⟨hq0, htl, hout, hos, hfl⟩ := HNM.out
  obtain ⟨wq, hwq⟩ : ∃ wq, w7.drewN nd = wq := ⟨_, rfl⟩
  have hbq : But [] w7 wq := hwq ▸ (But.refl [] w7).drewN
  rw [hwq]
  obtain ⟨r0, r1, r2, r3, r4, hb5, hs5⟩ := HR.out
  have hbel : Below W5.heap.size W5 wq := by
    have h1 := hE.dl.bel
    rw [d3] at h1
    exact h1.trans (hbq.toBelow.mono (by have := h1.size; exact this))
  have x0 := Rw.below r0 hbel (by omega)
  have x1 := Rw.below r1 hbel (by omega)
  have x2 := Rw.below r2 hbel (by omega)
  have x3 := Rw.below r3 hbel (by omega)
  have x4 := Rw.below r4 hbel (by omega)
  have k0 : wq.cell? ⟨w.heap.size, 0, none⟩ = some (.string ⟨#[]⟩) := Rw.cell x0 0
  have k1 : wq.cell? ⟨w.heap.size + 1, 0, none⟩ = some (.int .i64 0) := Rw.cell x1 0
  have k2 : wq.cell? ⟨w.heap.size + 1 + 1, 0, none⟩ = some (.int .i64 0) := Rw.cell x2 0
  have k3 : wq.cell? ⟨w.heap.size + 1 + 1 + 1, 0, none⟩ = some (.bool false) := Rw.cell x3 0
  have k4 : wq.cell? ⟨w.heap.size + 1 + 1 + 1 + 1, 0, none⟩ = some (.bool false) := Rw.cell x4 0
  have f0 : wq.frozen? ⟨w.heap.size, 0, none⟩ = false := Rw.fz x0 0
  have f1 : wq.frozen? ⟨w.heap.size + 1, 0, none⟩ = false := Rw.fz x1 0
  have f2 : wq.frozen? ⟨w.heap.size + 1 + 1, 0, none⟩ = false := Rw.fz x2 0
  have f3 : wq.frozen? ⟨w.heap.size + 1 + 1 + 1, 0, none⟩ = false := Rw.fz x3 0
  have f4 : wq.frozen? ⟨w.heap.size + 1 + 1 + 1 + 1, 0, none⟩ = false := Rw.fz x4 0
  have hpos : ({ L with sk := b } : Lay).pos = 0 := by show L.base + L.r1 = 0; rw [d5.base, d5.r1]
  have htok : dm.tok k s.data.toList = (o, q) := by
    have := hE.tok
    rw [hpos, List.drop_zero, d4] at this
    exact this
  have hcont : cont G { L with sk := b } o q = teOut k b s.data.toList := by
    unfold cont teOut sub
    rw [htok, hpos, d4]
    simp
  have hbrk : brk G { L with sk := b } (dm.inS (dm.setOf k)) q = teLn k s.data.toList := by
    unfold brk teLn sub
    rw [htok, hpos, d4]
    simp
  have hr : L'.r1 - L'.r0 = q := by
    have h1 := hE.r1
    have h2 := hE.r0
    change L'.r1 = L.r1 + q at h1
    change L'.r0 = L.r0 at h2
    rw [h1, h2, d5.r1, d5.r0]; omega
  have hln : L'.line = 1 + teLn k s.data.toList := by
    have h1 := hE.line
    change L'.line = L.line + _ at h1
    rw [h1, hbrk, d5.line]
  have hlt : teLn k s.data.toList ≤ 1000000 := by have := hE.dl.line; omega
  have hcv : (convert 35 9 (.slice a m c7)).run Tryd.prog wq.drew = .ok (.string ⟨(teOut k b s.data.toList).toArray⟩) wq.drew := by
    have := (hE.held.bytes.but (S := []) (hbq.drew) (by simp)).str c7
    rw [hE.len, hcont] at this
    exact this
  have hV := hE.err
  rw [hcont] at hV
  have HB : Hid (Below w.heap.size w wq) := Lib.hid (hb5.toBelow.trans (hbel.mono hb5.size))
  obtain rfl : q = q0 := by rw [← hq0, htok]
  rw [hr, hln]
  rw [htl] at hlt ⊢
  rw [hout] at hcv hV
  rw [hos] at hcv
  have hw : IntKind.i64.wrap (((1 + tl : Nat) : Int) - 1) = (tl : Int) := by rw [IntKind.wrap_i64]; omega
  rw [hfl] at hV
  obtain ⟨ln, hln2⟩ : ∃ ln, 1 + tl = ln := ⟨_, rfl⟩
  rw [hln2] at hw ⊢
  have hverr : (v = .nilIface ∧ fl = true) ∨ ((∃ X, v = .iface 88 (.pointer (some ⟨X, 0, none⟩))) ∧ fl = false) := by
    rcases hV with ⟨h1, h2, _⟩ | ⟨h1, _, X, ev, h2, _⟩
    · exact .inl ⟨h2, h1⟩
    · exact .inr ⟨⟨X, h2⟩, h1⟩
  have FIN : Hid (∀ v0 v1 v2 v3 v4 W9, ((((wq.drew.setCell ⟨w.heap.size, 0, none⟩ v0).setCell ⟨w.heap.size + 1, 0, none⟩ v1).setCell ⟨w.heap.size + 1 + 1, 0, none⟩ v2).setCell ⟨w.heap.size + 1 + 1 + 1, 0, none⟩ v3).setCell ⟨w.heap.size + 1 + 1 + 1 + 1, 0, none⟩ v4 = W9 →
      W9.cell? ⟨w.heap.size, 0, none⟩ = some v0 ∧ W9.cell? ⟨w.heap.size + 1, 0, none⟩ = some v1 ∧ W9.cell? ⟨w.heap.size + 1 + 1, 0, none⟩ = some v2 ∧ W9.cell? ⟨w.heap.size + 1 + 1 + 1, 0, none⟩ = some v3 ∧ W9.cell? ⟨w.heap.size + 1 + 1 + 1 + 1, 0, none⟩ = some v4 ∧ Below w.heap.size w W9) := Lib.hid fun v0 v1 v2 v3 v4 W9 h => by
    obtain ⟨h0, h1, h2, h3, h4, h5⟩ := five_put wq.drew w.heap.size _ _ _ _ _ v0 v1 v2 v3 v4 k0 k1 k2 k3 k4 W9 h
    exact ⟨h0, h1, h2, h3, h4, (HB.out.drew).trans h5⟩
  clear hE HP HT HD HR d1 d3 d4 d5 hwq hbq r0 r1 r2 r3 r4 hb5 hs5 hbel x0 x1 x2 x3 x4 hpos htok hcont hbrk hr hln hV htl hout hos hfl hln2 HB hW5 hq0 HNM
  go_wp2_with (fail)
  rcases hverr with ⟨rfl, rfl⟩ | ⟨⟨X, rfl⟩, rfl⟩
  · refine wp_region_noPanic ?_
    go_region
    all_goals
      refine NoPanic.normal ?_
      obtain ⟨W9, hW9⟩ : ∃ W9, (((((wq.setCell ⟨w.heap.size, 0, none⟩ (.string os)).setCell ⟨w.heap.size + 1, 0, none⟩ (.int .i64 q)).setCell ⟨w.heap.size + 1 + 1, 0, none⟩ (.int .i64 tl)).setCell ⟨w.heap.size + 1 + 1 + 1, 0, none⟩ (.bool false)).setCell ⟨w.heap.size + 1 + 1 + 1 + 1, 0, none⟩ (.bool true)).drew = W9 := ⟨_, rfl⟩
      obtain ⟨e0, e1, e2, e3, e4, eb⟩ := FIN.out _ _ _ _ _ W9 hW9
      rw [hW9]
      clear k0 k1 k2 k3 k4 f0 f1 f2 f3 f4 hW9 hcv
      go_wp2
      refine leaves_cons (f := 14) (args := #[.pointer (some ⟨w.heap.size, 0, none⟩), .pointer (some ⟨w.heap.size + 1, 0, none⟩), .pointer (some ⟨w.heap.size + 1 + 1, 0, none⟩), .pointer (some ⟨w.heap.size + 1 + 1 + 1, 0, none⟩), .pointer (some ⟨w.heap.size + 1 + 1 + 1 + 1, 0, none⟩)]) (by simp) (by simp [go_sem]) ?_
      refine (catch14 _ _ _ _ _ _).mono ?_
      rintro e u' w'' ⟨rfl, rfl, rfl⟩
      simp [Leaves, settle, results, Tryd.results6, go_sem, e0, e1, e2, e3, e4]
      exact eb
  · refine wp_region_noPanic ?_
    go_region
    all_goals
      refine NoPanic.normal ?_
      obtain ⟨W9, hW9⟩ : ∃ W9, (((((wq.setCell ⟨w.heap.size, 0, none⟩ (.string os)).setCell ⟨w.heap.size + 1, 0, none⟩ (.int .i64 q)).setCell ⟨w.heap.size + 1 + 1, 0, none⟩ (.int .i64 tl)).setCell ⟨w.heap.size + 1 + 1 + 1, 0, none⟩ (.bool true)).setCell ⟨w.heap.size + 1 + 1 + 1 + 1, 0, none⟩ (.bool true)).drew = W9 := ⟨_, rfl⟩
      obtain ⟨e0, e1, e2, e3, e4, eb⟩ := FIN.out _ _ _ _ _ W9 hW9
      rw [hW9]
      clear k0 k1 k2 k3 k4 f0 f1 f2 f3 f4 hW9 hcv
      go_wp2
      refine leaves_cons (f := 14) (args := #[.pointer (some ⟨w.heap.size, 0, none⟩), .pointer (some ⟨w.heap.size + 1, 0, none⟩), .pointer (some ⟨w.heap.size + 1 + 1, 0, none⟩), .pointer (some ⟨w.heap.size + 1 + 1 + 1, 0, none⟩), .pointer (some ⟨w.heap.size + 1 + 1 + 1 + 1, 0, none⟩)]) (by simp) (by simp [go_sem]) ?_
      refine (catch14 _ _ _ _ _ _).mono ?_
      rintro e u' w'' ⟨rfl, rfl, rfl⟩
      simp [Leaves, settle, results, Tryd.results6, go_sem, e0, e1, e2, e3, e4]
      exact eb
end Go.Proofs.YtlcbcgillekphaaDoor.dec
