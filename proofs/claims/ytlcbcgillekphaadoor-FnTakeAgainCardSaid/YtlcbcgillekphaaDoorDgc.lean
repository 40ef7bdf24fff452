/-
  Proved: the contracts of impl.Take and impl.SkipEmpty.
  Conditions: a text of at most 2000 bytes, sizes of at most 100 pieces in memory.
-/
import Derived.Test.YtlcbcgillekphaaDoorDgb
import Derived.Test.YtlcbcgillekphaaDoorDfb
namespace Go.Proofs.YtlcbcgillekphaaDoor.dec
open Go.RowKit Mem rw
set_option linter.unusedVariables false

def DtOut (G : Cfg) (k : Nat) (L : Lay) (e : Ending) (w' : World) : Prop :=
  ∃ a n c, e = .returned (.slice a n c) ∧ Hid (n = dm.runN (dm.inS k) (G.T.drop L.pos) ∧ ∃ L', DL G L' w' ∧ Held G L' w' a ((G.T.drop L.pos).take n))
theorem dt19 (G : Cfg) (hG : Base G) (L : Lay) (w : World) (h : DL G L w) (k : Nat) (hk : k ≤ 13) :
    Calls Tryd.prog 19 #[.pointer (some ⟨G.D, 0, none⟩), .int .i64 k] w (DtOut G k L) := by
  have HS := Lib.hid (set.doorSet k hk w)
  have HL := Lib.hid h
  have HG := Lib.hid hG
  clear h hG
  go_enter Tryd.func19, Tryd.ntmps19
  go_wp2_with fail
  refine HS.out.mono ?_
  rintro e w2 ⟨R, rfl, hR⟩
  have hq := HL.out.quiet (But.ofBelow (S := []) hR.2.2)
  have HT := Lib.hid (take30 G HG.out L w2 hq.1 R _ (dm.inS k) (fun c => set.inN_byte k c) hR.2.1 (not_mine HL.out hR.1))
  clear hq hR
  go_wp2_with fail
  refine HT.out.mono ?_
  rintro e w3 ⟨a3, n3, k3, rfl, h3⟩
  have H3 := Lib.hid h3.out
  clear h3
  go_wp2_with fail
  go_ret
  obtain ⟨e3, L3, t1, t2, t3, t4, t5⟩ := H3.out
  exact ⟨a3, n3, k3, rfl, Lib.hid ⟨e3, L3, t1, t5⟩⟩
theorem ds21 (G : Cfg) (hG : Base G) (L : Lay) (w : World) (h : DL G L w) (hln : L.line ≤ 500000) :
    Calls Tryd.prog 21 #[.pointer (some ⟨G.D, 0, none⟩)] w (SkOut G L w) := by
  have HS := Lib.hid (skip31 G hG L w h hln)
  clear h hG
  go_enter Tryd.func21, Tryd.ntmps21
  go_wp2_with fail
  refine HS.out.mono ?_
  rintro e w2 ⟨rfl, h2⟩
  go_wp2_with fail
  go_end0
  exact ⟨rfl, h2⟩
theorem catch18 (p0 p1 : Addr) (w : World) :
    CallsD Tryd.prog 18 #[.pointer (some p0), .pointer (some p1)] .returning w fun e u' w' => e = .returned (.tuple #[]) ∧ u' = .returning ∧ w = w' := by
  refine callsD_of_wpS Tryd.func18 rfl fun c₀ cs hu => ?_
  apply wpS_seq
  apply wpS_region
  simp [wpOpsS, go_sem, recoverD, hu, Tryd.ntmps18, Exit.thenS]
  refine wpS_cond (t := false) (by simp [Act.eval, Array.replicate]) ?_
  simp only [Bool.false_eq_true, if_false]
  refine wpS_of_wp (wp_skip ?_)
  cases c₀
  simp_all [bodyPostS, results, Tryd.results18]
theorem catch20 (p0 p1 p2 : Addr) (w : World) :
    CallsD Tryd.prog 20 #[.pointer (some p0), .pointer (some p1), .pointer (some p2)] .returning w fun e u' w' => e = .returned (.tuple #[]) ∧ u' = .returning ∧ w = w' := by
  refine callsD_of_wpS Tryd.func20 rfl fun c₀ cs hu => ?_
  apply wpS_seq
  apply wpS_region
  simp [wpOpsS, go_sem, recoverD, hu, Tryd.ntmps20, Exit.thenS]
  refine wpS_cond (t := false) (by simp [Act.eval, Array.replicate]) ?_
  simp only [Bool.false_eq_true, if_false]
  refine wpS_of_wp (wp_skip ?_)
  cases c₀
  simp_all [bodyPostS, results, Tryd.results20]
theorem two_put (W : World) (p : Nat) (u0 u1 v0 v1 : Value) (k0 : W.cell? ⟨p, 0, none⟩ = some u0) (k1 : W.cell? ⟨p + 1, 0, none⟩ = some u1) :
    ((W.setCell ⟨p, 0, none⟩ v0).setCell ⟨p + 1, 0, none⟩ v1).cell? ⟨p, 0, none⟩ = some v0 ∧ ((W.setCell ⟨p, 0, none⟩ v0).setCell ⟨p + 1, 0, none⟩ v1).cell? ⟨p + 1, 0, none⟩ = some v1 ∧ Below p W ((W.setCell ⟨p, 0, none⟩ v0).setCell ⟨p + 1, 0, none⟩ v1) := by
  refine ⟨?_, ?_, ?_⟩
  · rw [World.cell?_setCell_other _ _ _ _ (by simp)]
    exact World.cell?_setCell_same _ _ _ k0
  · exact World.cell?_setCell_same _ _ _ ((World.cell?_setCell_other _ _ _ _ (by simp)).trans k1)
  · exact ((Below.refl p W).setCell (Nat.le_refl _) _).setCell (by show p ≤ p + 1; omega) _
theorem three_put (W : World) (p : Nat) (u0 u1 u2 v0 v1 v2 : Value) (k0 : W.cell? ⟨p, 0, none⟩ = some u0) (k1 : W.cell? ⟨p + 1, 0, none⟩ = some u1) (k2 : W.cell? ⟨p + 1 + 1, 0, none⟩ = some u2) :
    (((W.setCell ⟨p, 0, none⟩ v0).setCell ⟨p + 1, 0, none⟩ v1).setCell ⟨p + 1 + 1, 0, none⟩ v2).cell? ⟨p, 0, none⟩ = some v0 ∧ (((W.setCell ⟨p, 0, none⟩ v0).setCell ⟨p + 1, 0, none⟩ v1).setCell ⟨p + 1 + 1, 0, none⟩ v2).cell? ⟨p + 1, 0, none⟩ = some v1 ∧ (((W.setCell ⟨p, 0, none⟩ v0).setCell ⟨p + 1, 0, none⟩ v1).setCell ⟨p + 1 + 1, 0, none⟩ v2).cell? ⟨p + 1 + 1, 0, none⟩ = some v2 ∧ Below p W (((W.setCell ⟨p, 0, none⟩ v0).setCell ⟨p + 1, 0, none⟩ v1).setCell ⟨p + 1 + 1, 0, none⟩ v2) := by
  refine ⟨?_, ?_, ?_, ?_⟩
  · rw [World.cell?_setCell_other _ _ _ _ (by simp), World.cell?_setCell_other _ _ _ _ (by simp)]
    exact World.cell?_setCell_same _ _ _ k0
  · rw [World.cell?_setCell_other _ _ _ _ (by simp)]
    exact World.cell?_setCell_same _ _ _ ((World.cell?_setCell_other _ _ _ _ (by simp)).trans k1)
  · exact World.cell?_setCell_same _ _ _ ((World.cell?_setCell_other _ _ _ _ (by simp)).trans ((World.cell?_setCell_other _ _ _ _ (by simp)).trans k2))
  · exact (((Below.refl p W).setCell (Nat.le_refl _) _).setCell (by show p ≤ p + 1; omega) _).setCell (by show p ≤ p + 1 + 1; omega) _
theorem two_new (w : World) (T0 T1 : TypeId) (u0 u1 : Value) (W : World) (h : (w.alloc (.cells #[u0] T0)).alloc (.cells #[u1] T1) = W) :
    Rw W w.heap.size [u0] T0 ∧ Rw W (w.heap.size + 1) [u1] T1 ∧ But [] w W ∧ W.heap.size = w.heap.size + 2 := by
  obtain ⟨w1, h1⟩ : ∃ w1, w.alloc (.cells #[u0] T0) = w1 := ⟨_, rfl⟩
  rw [h1] at h
  have r0 := Rw.new w [u0] T0
  have r1 := Rw.new w1 [u1] T1
  have b0 := (But.refl [] w).alloc (.cells #[u0] T0)
  have b1 := (But.refl [] w1).alloc (.cells #[u1] T1)
  have s0 := alloc_size w (.cells #[u0] T0)
  have s1 := alloc_size w1 (.cells #[u1] T1)
  rw [h1] at r0 b0 s0
  rw [h] at r1 b1 s1
  rw [s0] at r1 s1
  exact ⟨Rw.but r0 b1 (by simp), r1, b0.trans b1, s1⟩
theorem three_new (w : World) (T0 T1 T2 : TypeId) (u0 u1 u2 : Value) (W : World) (h : ((w.alloc (.cells #[u0] T0)).alloc (.cells #[u1] T1)).alloc (.cells #[u2] T2) = W) :
    Rw W w.heap.size [u0] T0 ∧ Rw W (w.heap.size + 1) [u1] T1 ∧ Rw W (w.heap.size + 2) [u2] T2 ∧ But [] w W ∧ W.heap.size = w.heap.size + 3 := by
  obtain ⟨w1, h1⟩ : ∃ w1, (w.alloc (.cells #[u0] T0)).alloc (.cells #[u1] T1) = w1 := ⟨_, rfl⟩
  obtain ⟨r0, r1, b1, s1⟩ := two_new w T0 T1 u0 u1 w1 h1
  rw [h1] at h
  have r2 := Rw.new w1 [u2] T2
  have b2 := (But.refl [] w1).alloc (.cells #[u2] T2)
  have s2 := alloc_size w1 (.cells #[u2] T2)
  rw [h] at r2 b2 s2
  rw [s1] at r2 s2
  exact ⟨Rw.but r0 b2 (by simp), Rw.but r1 b2 (by simp), r2, b1.trans b2, s2⟩
set_option maxRecDepth 100000 in
set_option maxHeartbeats 1000000 in
theorem take9 (k : Nat) (hk : k ≤ 13) (s : ByteArray) (hs : s.size ≤ 2000) (sa : Option Addr) (zs : List Int) (sc : Nat) (w : World) (ev : Addr) (hc : Ctx w ev) (hz : SzAt w sa zs) :
    Calls Tryd.prog 9 #[.int .i64 k, .string s, .slice sa zs.length sc] w fun e w' =>
      e = .returned (.tuple #[.string ⟨(s.data.toList.take (dm.runN (dm.inS k) s.data.toList)).toArray⟩, .bool true]) ∧ Below w.heap.size w w' := by
  have hmf : ∀ (fn : Fn) (first cap : Array Value) (w : World), (Instr.makeFunc fn first cap).run Tryd.prog w = .ok (.func fn first cap) w := fun _ _ _ _ => rfl
  obtain ⟨W5, hW5⟩ : ∃ W5, (w.alloc (.cells #[.string ⟨#[]⟩] 9)).alloc (.cells #[.bool false] 4) = W5 := ⟨_, rfl⟩
  obtain ⟨r0, r1, hb5, hs5⟩ := two_new w _ _ _ _ W5 hW5
  have HD := Lib.hid (decoder15 s (by omega) sa zs sc W5 ev (hc.below hb5.toBelow (Nat.le_refl _)) (hz.below hb5.toBelow))
  have HR := Lib.hid (And.intro r0 (And.intro r1 (And.intro hb5 hs5)))
  obtain ⟨n, hn⟩ : ∃ n, zs.length = n := ⟨_, rfl⟩
  rw [hn] at HD ⊢
  obtain ⟨os, hos⟩ : ∃ os : ByteArray, (⟨(s.data.toList.take (dm.runN (dm.inS k) s.data.toList)).toArray⟩ : ByteArray) = os := ⟨_, rfl⟩
  rw [hos]
  have HOS := Lib.hid hos
  clear hc hz r0 r1 hb5 hs5 hn hos
  go_enter_defers Tryd.func9, Tryd.ntmps9
  go_wp2_with (fail)
  refine HD.out.mono ?_
  rintro e w6 ⟨G, L, rfl, hO⟩
  obtain ⟨d1, d2, d3, d4, d5⟩ := hO.out
  have HT := Lib.hid (dt19 G d1 L w6 d2 k hk)
  clear hO d2
  go_wp2_with (fail)
  refine HT.out.mono ?_
  rintro e w7 ⟨a, m, c7, rfl, hE⟩
  obtain ⟨e1, L', dl, held⟩ := hE.out
  obtain ⟨r0, r1, hb5, hs5⟩ := HR.out
  have hbel : Below W5.heap.size W5 w7 := by
    have h1 := dl.bel
    rw [d3] at h1
    exact h1
  have x0 := Rw.below r0 hbel (by omega)
  have x1 := Rw.below r1 hbel (by omega)
  have k0 : w7.cell? ⟨w.heap.size, 0, none⟩ = some (.string ⟨#[]⟩) := Rw.cell x0 0
  have k1 : w7.cell? ⟨w.heap.size + 1, 0, none⟩ = some (.bool false) := Rw.cell x1 0
  have f0 : w7.frozen? ⟨w.heap.size, 0, none⟩ = false := Rw.fz x0 0
  have f1 : w7.frozen? ⟨w.heap.size + 1, 0, none⟩ = false := Rw.fz x1 0
  have hpos : L.pos = 0 := by unfold Lay.pos; rw [d5.base, d5.r1]
  rw [hpos, List.drop_zero, d4] at e1 held
  have hml : (s.data.toList.take m).length = m := by
    rw [List.length_take, e1]
    exact Nat.min_eq_left (dm.runN_le _ _)
  have hcv : (convert 35 9 (.slice a m c7)).run Tryd.prog w7 = .ok (.string os) w7 := by
    have := held.bytes.str c7
    rw [hml] at this
    rw [← HOS.out, ← e1]
    exact this
  obtain ⟨e0, e2, eb⟩ := two_put w7 w.heap.size _ _ (.string os) (.bool true) k0 k1
  have HB : Hid (Below w.heap.size w ((w7.setCell ⟨w.heap.size, 0, none⟩ (.string os)).setCell ⟨w.heap.size + 1, 0, none⟩ (.bool true))) := Lib.hid ((hb5.toBelow.trans (hbel.mono hb5.size)).trans eb)
  have E0 := Lib.hid (And.intro e0 e2)
  clear e0 e2 eb hE e1 dl held r0 r1 hb5 hs5 hbel x0 x1 hpos hml d1 d3 d4 d5 HT HD HR hW5
  go_wp2
  obtain ⟨e0, e2⟩ := E0.out
  refine leaves_cons (f := 18) (args := #[.pointer (some ⟨w.heap.size, 0, none⟩), .pointer (some ⟨w.heap.size + 1, 0, none⟩)]) (by simp) (by simp [go_sem]) ?_
  refine (catch18 _ _ _).mono ?_
  rintro e u' w'' ⟨rfl, rfl, rfl⟩
  simp [Leaves, settle, results, Tryd.results9, go_sem, e0, e2]
  exact HB.out
set_option maxRecDepth 100000 in
set_option maxHeartbeats 1000000 in
theorem skip10 (s : ByteArray) (hs : s.size ≤ 2000) (sa : Option Addr) (zs : List Int) (sc : Nat) (w : World) (ev : Addr) (hc : Ctx w ev) (hz : SzAt w sa zs) :
    Calls Tryd.prog 10 #[.string s, .slice sa zs.length sc] w fun e w' =>
      e = .returned (.tuple #[.int .i64 (dm.passed (s.size + 1) s.data.toList : Nat), .int .i64 (dm.breaks (s.data.toList.take (dm.passed (s.size + 1) s.data.toList)) : Nat), .bool true]) ∧ Below w.heap.size w w' := by
  have hmf : ∀ (fn : Fn) (first cap : Array Value) (w : World), (Instr.makeFunc fn first cap).run Tryd.prog w = .ok (.func fn first cap) w := fun _ _ _ _ => rfl
  obtain ⟨W5, hW5⟩ : ∃ W5, ((w.alloc (.cells #[.int .i64 0] 3)).alloc (.cells #[.int .i64 0] 3)).alloc (.cells #[.bool false] 4) = W5 := ⟨_, rfl⟩
  obtain ⟨r0, r1, r2, hb5, hs5⟩ := three_new w _ _ _ _ _ _ W5 hW5
  have HD := Lib.hid (decoder15 s (by omega) sa zs sc W5 ev (hc.below hb5.toBelow (Nat.le_refl _)) (hz.below hb5.toBelow))
  have HR := Lib.hid (And.intro r0 (And.intro r1 (And.intro r2 (And.intro hb5 hs5))))
  obtain ⟨n, hn⟩ : ∃ n, zs.length = n := ⟨_, rfl⟩
  rw [hn] at HD ⊢
  obtain ⟨q, hq⟩ : ∃ q, dm.passed (s.size + 1) s.data.toList = q := ⟨_, rfl⟩
  rw [hq]
  obtain ⟨tl, htl⟩ : ∃ tl, dm.breaks (s.data.toList.take q) = tl := ⟨_, rfl⟩
  rw [htl]
  have HNM := Lib.hid (And.intro hq htl)
  clear hc hz r0 r1 r2 hb5 hs5 hn hq htl
  go_enter_defers Tryd.func10, Tryd.ntmps10
  go_wp2_with (fail)
  refine HD.out.mono ?_
  rintro e w6 ⟨G, L, rfl, hO⟩
  obtain ⟨d1, d2, d3, d4, d5⟩ := hO.out
  have HT := Lib.hid (ds21 G d1 L w6 d2 (by rw [d5.line]; omega))
  clear hO d2
  go_wp2_with (fail)
  refine HT.out.mono ?_
  rintro e w7 ⟨rfl, hE⟩
  obtain ⟨L', n', e1, e2, dl, go, ln, nb⟩ := hE.out
  have HP := Lib.hid (place17 G d1 L' w7 dl)
  go_wp2_with (fail)
  refine HP.out.mono ?_
  rintro e w8 ⟨rfl, nd, rfl⟩
  obtain ⟨wq, hwq⟩ : ∃ wq, w7.drewN nd = wq := ⟨_, rfl⟩
  have hbq : But [] w7 wq := hwq ▸ (But.refl [] w7).drewN
  rw [hwq]
  obtain ⟨r0, r1, r2, hb5, hs5⟩ := HR.out
  obtain ⟨hq, htl⟩ := HNM.out
  have hbel : Below W5.heap.size W5 wq := by
    have h1 := dl.bel
    rw [d3] at h1
    exact h1.trans (hbq.toBelow.mono h1.size)
  have x0 := Rw.below r0 hbel (by omega)
  have x1 := Rw.below r1 hbel (by omega)
  have x2 := Rw.below r2 hbel (by omega)
  have k0 : wq.cell? ⟨w.heap.size, 0, none⟩ = some (.int .i64 0) := Rw.cell x0 0
  have k1 : wq.cell? ⟨w.heap.size + 1, 0, none⟩ = some (.int .i64 0) := Rw.cell x1 0
  have k2 : wq.cell? ⟨w.heap.size + 1 + 1, 0, none⟩ = some (.bool false) := Rw.cell x2 0
  have f0 : wq.frozen? ⟨w.heap.size, 0, none⟩ = false := Rw.fz x0 0
  have f1 : wq.frozen? ⟨w.heap.size + 1, 0, none⟩ = false := Rw.fz x1 0
  have f2 : wq.frozen? ⟨w.heap.size + 1 + 1, 0, none⟩ = false := Rw.fz x2 0
  have hpos : L.pos = 0 := by unfold Lay.pos; rw [d5.base, d5.r1]
  rw [hpos, List.drop_zero, d4] at e1 ln
  have hll : s.data.toList.length = s.size := by simp
  rw [hll, hq] at e1
  obtain rfl : n' = q := e1
  have hr : L'.r1 - L'.r0 = n' := by
    rw [ln.r1, ln.r0, d5.r1, d5.r0]; omega
  have hln : L'.line = 1 + tl := by
    have h1 := ln.line
    rw [htl, d5.line] at h1
    exact h1
  have hlt : tl ≤ 1000000 := by have := dl.line; omega
  rw [hr, hln]
  have hw : IntKind.i64.wrap (((1 + tl : Nat) : Int) - 1) = (tl : Int) := by rw [IntKind.wrap_i64]; omega
  obtain ⟨l2, hl2⟩ : ∃ l2, 1 + tl = l2 := ⟨_, rfl⟩
  rw [hl2] at hw ⊢
  obtain ⟨e0, e3, e4, eb⟩ := three_put wq w.heap.size _ _ _ (.int .i64 (n' : Int)) (.int .i64 (tl : Int)) (.bool true) k0 k1 k2
  have HB : Hid (Below w.heap.size w (((wq.setCell ⟨w.heap.size, 0, none⟩ (.int .i64 (n' : Int))).setCell ⟨w.heap.size + 1, 0, none⟩ (.int .i64 (tl : Int))).setCell ⟨w.heap.size + 1 + 1, 0, none⟩ (.bool true))) := Lib.hid ((hb5.toBelow.trans (hbel.mono hb5.size)).trans eb)
  have E0 := Lib.hid (And.intro e0 (And.intro e3 e4))
  clear e0 e3 e4 eb hE e2 dl go ln nb r0 r1 r2 hb5 hs5 hbel x0 x1 x2 hpos hll hq htl hr hln hl2 d1 d3 d4 d5 HT HD HR hW5 HP HNM hwq hbq
  go_wp2
  obtain ⟨e0, e3, e4⟩ := E0.out
  refine leaves_cons (f := 20) (args := #[.pointer (some ⟨w.heap.size, 0, none⟩), .pointer (some ⟨w.heap.size + 1, 0, none⟩), .pointer (some ⟨w.heap.size + 1 + 1, 0, none⟩)]) (by simp) (by simp [go_sem]) ?_
  refine (catch20 _ _ _ _).mono ?_
  rintro e u' w'' ⟨rfl, rfl, rfl⟩
  simp [Leaves, settle, results, Tryd.results10, go_sem, e0, e3, e4]
  exact HB.out
end Go.Proofs.YtlcbcgillekphaaDoor.dec
