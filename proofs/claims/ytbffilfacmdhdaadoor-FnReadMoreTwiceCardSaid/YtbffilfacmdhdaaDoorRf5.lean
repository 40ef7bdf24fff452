/-
  Proved: the contracts of impl.ReadMore and impl.SkipMore.
  Conditions: a text of at most 2000 bytes, as many bytes as there are, sizes of at most 100 pieces in memory.
-/
import Derived.Test.YtbffilfacmdhdaaDoorRf4
import Derived.Deep.DrawnRows
namespace Go.Proofs.YtbffilfacmdhdaaDoor.dec
open Go.RowKit Mem rw
set_option linter.unusedVariables false
set_option linter.unusedSimpArgs false

theorem catch7 (p0 p1 p2 : Addr) (w : World) :
    CallsD Tryd.prog 7 #[.pointer (some p0), .pointer (some p1), .pointer (some p2)] .returning w fun e u' w' => e = .returned (.tuple #[]) ∧ u' = .returning ∧ w = w' := by
  refine callsD_of_wpS Tryd.func7 rfl fun c₀ cs hu => ?_
  apply wpS_seq
  apply wpS_region
  simp [wpOpsS, go_sem, recoverD, hu, Tryd.ntmps7, Exit.thenS]
  refine wpS_cond (t := false) (by simp [Act.eval, Array.replicate]) ?_
  simp only [Bool.false_eq_true, if_false]
  refine wpS_of_wp (wp_skip ?_)
  cases c₀
  simp_all [bodyPostS, results, Tryd.results7]
theorem catch12 (p0 p1 : Addr) (w : World) :
    CallsD Tryd.prog 12 #[.pointer (some p0), .pointer (some p1)] .returning w fun e u' w' => e = .returned (.tuple #[]) ∧ u' = .returning ∧ w = w' := by
  refine callsD_of_wpS Tryd.func12 rfl fun c₀ cs hu => ?_
  apply wpS_seq
  apply wpS_region
  simp [wpOpsS, go_sem, recoverD, hu, Tryd.ntmps12, Exit.thenS]
  refine wpS_cond (t := false) (by simp [Act.eval, Array.replicate]) ?_
  simp only [Bool.false_eq_true, if_false]
  refine wpS_of_wp (wp_skip ?_)
  cases c₀
  simp_all [bodyPostS, results, Tryd.results12]
theorem two_put (W : World) (p : Nat) (u0 u1 v0 v1 : Value) (k0 : W.cell? ⟨p, 0, none⟩ = some u0) (k1 : W.cell? ⟨p + 1, 0, none⟩ = some u1) :
    ((W.setCell ⟨p, 0, none⟩ v0).setCell ⟨p + 1, 0, none⟩ v1).cell? ⟨p, 0, none⟩ = some v0 ∧ ((W.setCell ⟨p, 0, none⟩ v0).setCell ⟨p + 1, 0, none⟩ v1).cell? ⟨p + 1, 0, none⟩ = some v1 ∧ Below p W ((W.setCell ⟨p, 0, none⟩ v0).setCell ⟨p + 1, 0, none⟩ v1) := by
  refine ⟨?_, ?_, ?_⟩
  · rw [World.cell?_setCell_other _ _ _ _ (by simp)]
    exact World.cell?_setCell_same _ _ _ k0
  · exact World.cell?_setCell_same _ _ _ ((World.cell?_setCell_other _ _ _ _ (by simp)).trans k1)
  · exact ((Below.refl p W).setCell (Nat.le_refl _) _).setCell (by show p ≤ p + 1; omega) _
theorem three_put (W : World) (p : Nat) (u0 u1 u2 v0 v1 v2 : Value) (k0 : W.cell? ⟨p, 0, none⟩ = some u0) (k1 : W.cell? ⟨p + 1, 0, none⟩ = some u1) (k2 : W.cell? ⟨p + 1 + 1, 0, none⟩ = some u2) :
    (((W.setCell ⟨p, 0, none⟩ v0).setCell ⟨p + 1, 0, none⟩ v1).setCell ⟨p + 1 + 1, 0, none⟩ v2).cell? ⟨p, 0, none⟩ = some v0 ∧ (((W.setCell ⟨p, 0, none⟩ v0).setCell ⟨p + 1, 0, none⟩ v1).setCell ⟨p + 1 + 1, 0, none⟩ v2).cell? ⟨p + 1, 0, none⟩ = some v1 ∧ (((W.setCell ⟨p, 0, none⟩ v0).setCell ⟨p + 1, 0, none⟩ v1).setCell ⟨p + 1 + 1, 0, none⟩ v2).cell? ⟨p + 1 + 1, 0, none⟩ = some v2 ∧ Below p W (((W.setCell ⟨p, 0, none⟩ v0).setCell ⟨p + 1, 0, none⟩ v1).setCell ⟨p + 1 + 1, 0, none⟩ v2) := by
  refine ⟨?_, ?_, ?_, ?_⟩
  · rw [World.cell?_setCell_other _ _ _ _ (by simp), World.cell?_setCell_other _ _ _ _ (by simp)]
    exact World.cell?_setCell_same _ _ _ k0
  · rw [World.cell?_setCell_other _ _ _ _ (by simp)]
    exact World.cell?_setCell_same _ _ _ ((World.cell?_setCell_other _ _ _ _ (by simp)).trans k1)
  · exact World.cell?_setCell_same _ _ _ ((World.cell?_setCell_other _ _ _ _ (by simp)).trans ((World.cell?_setCell_other _ _ _ _ (by simp)).trans k2))
  · exact (((Below.refl p W).setCell (Nat.le_refl _) _).setCell (by show p ≤ p + 1; omega) _).setCell (by show p ≤ p + 1 + 1; omega) _
theorem two_new (w : World) (T0 T1 : TypeId) (u0 u1 : Value) (W : World) (h : (w.alloc (.cells #[u0] T0)).alloc (.cells #[u1] T1) = W) :
    Rw W w.heap.size [u0] T0 ∧ Rw W (w.heap.size + 1) [u1] T1 ∧ But [] w W ∧ W.heap.size = w.heap.size + 2 := by
  obtain ⟨w1, h1⟩ : ∃ w1, w.alloc (.cells #[u0] T0) = w1 := ⟨_, rfl⟩
  rw [h1] at h
  have r0 := Rw.new w [u0] T0
  have r1 := Rw.new w1 [u1] T1
  have b0 := (But.refl [] w).alloc (.cells #[u0] T0)
  have b1 := (But.refl [] w1).alloc (.cells #[u1] T1)
  have s0 := alloc_size w (.cells #[u0] T0)
  have s1 := alloc_size w1 (.cells #[u1] T1)
  rw [h1] at r0 b0 s0
  rw [h] at r1 b1 s1
  rw [s0] at r1 s1
  exact ⟨Rw.but r0 b1 (by simp), r1, b0.trans b1, s1⟩
theorem three_new (w : World) (T0 T1 T2 : TypeId) (u0 u1 u2 : Value) (W : World) (h : ((w.alloc (.cells #[u0] T0)).alloc (.cells #[u1] T1)).alloc (.cells #[u2] T2) = W) :
    Rw W w.heap.size [u0] T0 ∧ Rw W (w.heap.size + 1) [u1] T1 ∧ Rw W (w.heap.size + 2) [u2] T2 ∧ But [] w W ∧ W.heap.size = w.heap.size + 3 := by
  obtain ⟨w1, h1⟩ : ∃ w1, (w.alloc (.cells #[u0] T0)).alloc (.cells #[u1] T1) = w1 := ⟨_, rfl⟩
  obtain ⟨r0, r1, b1, s1⟩ := two_new w T0 T1 u0 u1 w1 h1
  rw [h1] at h
  have r2 := Rw.new w1 [u2] T2
  have b2 := (But.refl [] w1).alloc (.cells #[u2] T2)
  have s2 := alloc_size w1 (.cells #[u2] T2)
  rw [h] at r2 b2 s2
  rw [s1] at r2 s2
  exact ⟨Rw.but r0 b2 (by simp), Rw.but r1 b2 (by simp), r2, b1.trans b2, s2⟩
set_option maxRecDepth 100000 in
set_option maxHeartbeats 1000000 in
theorem more5 (s d : ByteArray) (hs : s.size ≤ 2000) (hd : d.size ≤ 10000) (k : Nat) (hk : k ≤ s.size) (sa : Option Addr) (zs : List Int) (sc : Nat) (w : World) (hz : SzAt w sa zs) :
    Calls Tryd.prog 5 #[.string s, .string d, .int .i64 k, .slice sa zs.length sc] w fun e w' =>
      e = .returned (.tuple #[.string ⟨(d.data.toList ++ s.data.toList.take k).toArray⟩, .int .i64 ((s.size - k : Nat) : Int), .int .i64 0]) ∧ Below w.heap.size w w' := by
  have hmf : ∀ (fn : Fn) (first cap : Array Value) (w : World), (Instr.makeFunc fn first cap).run Tryd.prog w = .ok (.func fn first cap) w := fun _ _ _ _ => rfl
  obtain ⟨W5, hW5⟩ : ∃ W5, ((w.alloc (.cells #[.string ⟨#[]⟩] 9)).alloc (.cells #[.int .i64 0] 3)).alloc (.cells #[.int .i64 0] 3) = W5 := ⟨_, rfl⟩
  obtain ⟨r0, r1, r2, hb5, hs5⟩ := three_new w _ _ _ _ _ _ W5 hW5
  have HP := Lib.hid (pieces8 s (by omega) sa zs sc W5 (hz.below hb5.toBelow))
  have HR := Lib.hid (And.intro r0 (And.intro r1 (And.intro r2 (And.intro hb5 hs5))))
  obtain ⟨n, hn⟩ : ∃ n, zs.length = n := ⟨_, rfl⟩
  rw [hn] at HP ⊢
  obtain ⟨os, hos⟩ : ∃ os : ByteArray, (⟨(d.data.toList ++ s.data.toList.take k).toArray⟩ : ByteArray) = os := ⟨_, rfl⟩
  rw [hos]
  have hsl : s.data.toList.length = s.size := by simp
  have hdl : d.data.toList.length = d.size := by simp
  obtain ⟨q, hq⟩ : ∃ q, s.size - k = q := ⟨_, rfl⟩
  rw [hq]
  have HOS := Lib.hid (And.intro hos (And.intro hsl (And.intro hdl (And.intro hq (And.intro hs hd)))))
  clear hz r0 r1 r2 hb5 hs5 hn hos hsl hdl hq
  go_enter_defers Tryd.func5, Tryd.ntmps5
  go_wp2_with (fail)
  refine HP.out.mono ?_
  rintro e w6 ⟨G, X, B, rfl, hO⟩
  have HO := Lib.hid hO.out
  clear hO HP
  obtain ⟨W7, hW7⟩ : ∃ W7, w6.alloc (.cells #[.pointer (some ⟨G.R, 0, none⟩), .iface 82 (.pointer (some ⟨X, 0, none⟩))] 33) = W7 := ⟨_, rfl⟩
  have p7 := Rw.new w6 [.pointer (some ⟨G.R, 0, none⟩), .iface 82 (.pointer (some ⟨X, 0, none⟩))] 33
  have b7 := (But.refl [] w6).alloc (.cells #[.pointer (some ⟨G.R, 0, none⟩), .iface 82 (.pointer (some ⟨X, 0, none⟩))] 33)
  have s7 := alloc_size w6 (.cells #[.pointer (some ⟨G.R, 0, none⟩), .iface 82 (.pointer (some ⟨X, 0, none⟩))] 33)
  rw [hW7] at p7 b7 s7
  have q0 : W7.cell? ⟨w6.heap.size, 0, none⟩ = some (.pointer (some ⟨G.R, 0, none⟩)) := Rw.cell p7 0
  have q1 : W7.cell? ⟨w6.heap.size, 1, none⟩ = some (.iface 82 (.pointer (some ⟨X, 0, none⟩))) := Rw.cell p7 1
  have hconv : (convert 9 35 (.string d)).run Tryd.prog W7 = .ok (.slice (some ⟨W7.heap.size, 0, none⟩) d.size (grownCap W7 d.size 0 5)) (Lib.bytesWorld W7 5 d) :=
    Lib.run_convert_string_bytes W7 9 35 5 d Tryd.underlying9 Tryd.underlying35 Tryd.underlying5
  have hb8 := BufAt.of_bytesWorld W7 d (by have := HOS.out.2.2.2.2.2; omega)
  obtain ⟨cap, hcap⟩ : ∃ cap, grownCap W7 d.size 0 5 = cap := ⟨_, rfl⟩
  obtain ⟨W8, hW8⟩ : ∃ W8, Lib.bytesWorld W7 5 d = W8 := ⟨_, rfl⟩
  have b8 : But [] W7 W8 := hW8 ▸ bytes_but [] W7 5 d
  rw [hW8, hcap] at hb8 hconv
  rw [s7] at hb8 hconv
  obtain ⟨d1, d2, d3, d4, d5, d6⟩ := HO.out
  obtain ⟨o1, o2, o3, o4, o5, o6⟩ := HOS.out
  have hsz8 := b8.size
  have hA := append9 G d1 X B (w6.heap.size + 1) W8 [] 0 s.data.toList 0 (-1) (-1) ((d2.quiet b7).quiet b8) d.data.toList cap k hb8 (by omega) (by simp; omega) (by omega) (by omega) (by omega) (by omega) (by have := d2.bel.size; omega) (by omega) (by omega) (by omega)
  rw [o3, List.drop_zero, List.nil_append] at hA
  have HA := Lib.hid hA
  have HF8 := Lib.hid (And.intro p7 (And.intro b7 (And.intro b8 s7)))
  clear p7 b7 hb8 b8 s7 d1 d2 d3 d4 d5 d6 o1 o2 o3 o4 o5 o6 hsz8 hA hW8 hcap
  go_wp2_with (fail)
  refine HA.out.mono ?_
  rintro e w9 ⟨A', cap', rfl, h9⟩
  obtain ⟨l, r, left, at_, lb, ls, bx, rs, dst, b9, hAlo⟩ := h9.out
  obtain ⟨p7, b7, b8, s7⟩ := HF8.out
  obtain ⟨d1, d2, d3, d4, d5, d6⟩ := HO.out
  obtain ⟨o1, o2, o3, o4, o5, o6⟩ := HOS.out
  obtain ⟨r0, r1, r2, hb5, hs5⟩ := HR.out
  have hbel : Below W5.heap.size W5 w9 := by
    have h1 := bx.bel
    rw [d3] at h1
    exact h1
  have hbd9 := (But.refl [] w9).drew
  have x0 := Rw.but (Rw.below r0 hbel (by omega)) hbd9 (by simp)
  have x1 := Rw.but (Rw.below r1 hbel (by omega)) hbd9 (by simp)
  have x2 := Rw.but (Rw.below r2 hbel (by omega)) hbd9 (by simp)
  have p9 := Rw.but (Rw.but (Rw.but p7 b8 (by simp)) b9 (by simp; omega)) hbd9 (by simp)
  have g0 : w9.drew.cell? ⟨w6.heap.size, 0, none⟩ = some (.pointer (some ⟨G.R, 0, none⟩)) := Rw.cell p9 0
  have g1 : w9.drew.cell? ⟨w6.heap.size, 1, none⟩ = some (.iface 82 (.pointer (some ⟨X, 0, none⟩))) := Rw.cell p9 1
  obtain ⟨N, hN⟩ : ∃ N, d.data.toList.length + k = N := ⟨_, rfl⟩
  have hsz6 := d2.bel.size
  rw [d3] at hsz6 hAlo
  have hcN : ∀ W, But [w.heap.size, w.heap.size + 1, w.heap.size + 1 + 1] w9.drew W → W.cell? ⟨w6.heap.size, 0, none⟩ = some (.pointer (some ⟨G.R, 0, none⟩)) ∧ W.cell? ⟨w6.heap.size, 1, none⟩ = some (.iface 82 (.pointer (some ⟨X, 0, none⟩))) ∧ (convert 35 9 (.slice (some ⟨A', 0, none⟩) N cap')).run Tryd.prog W = .ok (.string os) W := fun W hW => by
    have h1 := ((dst.but hbd9 (by simp)).but hW (by simp; omega)).str
    rw [List.length_append, List.length_take, o2, Nat.min_eq_left hk, hN, o1] at h1
    exact ⟨hW.cellAt g0 (by simp; omega), hW.cellAt g1 (by simp; omega), h1⟩
  have HL := left10 G X B w9.drew l r left at_ lb ls (bx.quiet hbd9)
  rw [rs, List.length_drop, o2, o4] at HL
  have HLH := Lib.hid HL
  clear HL
  have HST := Lib.hid (fun w => state11 w)
  have HCN := Lib.hid hcN
  have HX := Lib.hid (And.intro x0 (And.intro x1 x2))
  have HPP := Lib.hid p9
  have HB9 : Hid (Below w.heap.size w w9.drew) := Lib.hid ((hb5.toBelow.trans (hbel.mono hb5.size)).trans (hbd9.toBelow.mono (Nat.le_trans hb5.size hbel.size)))
  rw [hN]
  clear h9 bx rs dst b9 p7 b7 b8 s7 d1 d2 d3 d4 d5 d6 o1 o2 o3 o4 o5 o6 r0 r1 r2 hb5 hs5 hbel hbd9 x0 x1 x2 p9 hN hcN g0 g1 hsz6 hAlo HA HR HF8 q0 q1 hW7
  go_wp2_with (fail)
  go_region_held3 (fun wx => wx.cell? ⟨w6.heap.size, 0, none⟩ = some (.pointer (some ⟨G.R, 0, none⟩)) ∧ wx.cell? ⟨w6.heap.size, 1, none⟩ = some (.iface 82 (.pointer (some ⟨X, 0, none⟩))) ∧ (convert 35 9 (.slice (some ⟨A', 0, none⟩) N cap')).run Tryd.prog wx = .ok (.string os) wx) (first | exact HCN.out _ (But.refl _ _) | exact HCN.out _ (hb10.mono (by simp)) | exact HCN.out _ ((hb10.mono (by simp)).setCell (Or.inl (by simp)) _) | exact HCN.out _ (((hb10.mono (by simp)).setCell (Or.inl (by simp)) _).setCell (Or.inl (by simp)) _) | exact HCN.out _ ((((hb10.mono (by simp)).setCell (Or.inl (by simp)) _).setCell (Or.inl (by simp)) _).setCell (Or.inl (by simp)) _)) (first | (go_at_call 10; (with_reducible refine HLH.out.mono ?_); rintro e w10 ⟨rfl, hb10⟩; have k0 := Rw.cell (Rw.but HX.out.1 hb10 (by simp)) 0; have k1 := Rw.cell (Rw.but HX.out.2.1 hb10 (by simp)) 0; have k2 := Rw.cell (Rw.but HX.out.2.2 hb10 (by simp)) 0; have f0 := Rw.fz (Rw.but HX.out.1 hb10 (by simp)) 0; have f1 := Rw.fz (Rw.but HX.out.2.1 hb10 (by simp)) 0; have f2 := Rw.fz (Rw.but HX.out.2.2 hb10 (by simp)) 0; simp only [List.getElem?_cons_zero] at k0 k1 k2) | (go_at_call 11; (with_reducible refine (HST.out _).mono ?_); rintro e w11 ⟨rfl, rfl⟩))
  all_goals
    obtain ⟨e0, e3, e4, eb⟩ := three_put w10 w.heap.size _ _ _ (.string os) (.int .i64 (q : Int)) (.int .i64 0) k0 k1 k2
    have HB : Hid (Below w.heap.size w (((w10.setCell ⟨w.heap.size, 0, none⟩ (.string os)).setCell ⟨w.heap.size + 1, 0, none⟩ (.int .i64 (q : Int))).setCell ⟨w.heap.size + 1 + 1, 0, none⟩ (.int .i64 0))) := Lib.hid ((HB9.out.trans (hb10.toBelow.mono HB9.out.size)).trans eb)
    have E0 := Lib.hid (And.intro e0 (And.intro e3 e4))
    clear e0 e3 e4 eb HB9 hb10 HX HCN HLH HST
    go_wp2
    obtain ⟨e0, e3, e4⟩ := E0.out
    refine leaves_cons (f := 7) (args := #[.pointer (some ⟨w.heap.size, 0, none⟩), .pointer (some ⟨w.heap.size + 1, 0, none⟩), .pointer (some ⟨w.heap.size + 1 + 1, 0, none⟩)]) (by simp) (by simp [go_sem]) ?_
    refine (catch7 _ _ _ _).mono ?_
    rintro e u' w'' ⟨rfl, rfl, rfl⟩
    simp [Leaves, settle, results, Tryd.results5, go_sem, e0, e3, e4]
    exact HB.out
set_option maxRecDepth 100000 in
set_option maxHeartbeats 1000000 in
theorem skip6 (s : ByteArray) (hs : s.size ≤ 2000) (k : Nat) (hk : k ≤ s.size) (sa : Option Addr) (zs : List Int) (sc : Nat) (w : World) (hz : SzAt w sa zs) :
    Calls Tryd.prog 6 #[.string s, .int .i64 k, .slice sa zs.length sc, .bool false] w fun e w' =>
      e = .returned (.tuple #[.int .i64 ((s.size - k : Nat) : Int), .int .i64 0]) ∧ Below w.heap.size w w' := by
  have hmf : ∀ (fn : Fn) (first cap : Array Value) (w : World), (Instr.makeFunc fn first cap).run Tryd.prog w = .ok (.func fn first cap) w := fun _ _ _ _ => rfl
  obtain ⟨W5, hW5⟩ : ∃ W5, (w.alloc (.cells #[.int .i64 0] 3)).alloc (.cells #[.int .i64 0] 3) = W5 := ⟨_, rfl⟩
  obtain ⟨r0, r1, hb5, hs5⟩ := two_new w _ _ _ _ W5 hW5
  have HP := Lib.hid (pieces8 s (by omega) sa zs sc W5 (hz.below hb5.toBelow))
  have HR := Lib.hid (And.intro r0 (And.intro r1 (And.intro hb5 hs5)))
  obtain ⟨n, hn⟩ : ∃ n, zs.length = n := ⟨_, rfl⟩
  rw [hn] at HP ⊢
  have hsl : s.data.toList.length = s.size := by simp
  obtain ⟨q, hq⟩ : ∃ q, s.size - k = q := ⟨_, rfl⟩
  rw [hq]
  have HOS := Lib.hid (And.intro hsl (And.intro hq hs))
  clear hz r0 r1 hb5 hs5 hn hsl hq
  go_enter_defers Tryd.func6, Tryd.ntmps6
  go_wp2_with (fail)
  refine HP.out.mono ?_
  rintro e w6 ⟨G, X, B, rfl, hO⟩
  have HO := Lib.hid hO.out
  clear hO HP
  obtain ⟨W7, hW7⟩ : ∃ W7, w6.alloc (.cells #[.pointer (some ⟨G.R, 0, none⟩), .iface 82 (.pointer (some ⟨X, 0, none⟩))] 33) = W7 := ⟨_, rfl⟩
  have p7 := Rw.new w6 [.pointer (some ⟨G.R, 0, none⟩), .iface 82 (.pointer (some ⟨X, 0, none⟩))] 33
  have b7 := (But.refl [] w6).alloc (.cells #[.pointer (some ⟨G.R, 0, none⟩), .iface 82 (.pointer (some ⟨X, 0, none⟩))] 33)
  have s7 := alloc_size w6 (.cells #[.pointer (some ⟨G.R, 0, none⟩), .iface 82 (.pointer (some ⟨X, 0, none⟩))] 33)
  rw [hW7] at p7 b7 s7
  have q0 : W7.cell? ⟨w6.heap.size, 0, none⟩ = some (.pointer (some ⟨G.R, 0, none⟩)) := Rw.cell p7 0
  have q1 : W7.cell? ⟨w6.heap.size, 1, none⟩ = some (.iface 82 (.pointer (some ⟨X, 0, none⟩))) := Rw.cell p7 1
  have HF7 := Lib.hid (And.intro p7 (And.intro b7 s7))
  have HSRC := Lib.hid (source14 G.R X W7)
  clear p7 b7 s7
  go_wp2_with (fail)
  refine HSRC.out.mono ?_
  rintro e w8 ⟨rfl, hb8⟩
  obtain ⟨W9, hW9⟩ : ∃ W9, w8.alloc (.cells #[.slice none 0 0] 35) = W9 := ⟨_, rfl⟩
  have b9 := (But.refl [] w8).alloc (.cells #[.slice none 0 0] 35)
  rw [hW9] at b9
  obtain ⟨p7, b7, s7⟩ := HF7.out
  obtain ⟨d1, d2, d3, d4, d5, d6⟩ := HO.out
  obtain ⟨o2, o4, o5⟩ := HOS.out
  have hD := discard13 G d1 X B W9 [] 0 s.data.toList 0 (-1) (-1) (((d2.quiet b7).quiet hb8).quiet b9) k (by simp; omega) (by omega) ⟨w8.heap.size, 0, none⟩
  rw [List.drop_zero, List.nil_append] at hD
  have HD := Lib.hid hD
  have HB9 := Lib.hid (And.intro hb8 b9)
  clear hb8 b9 p7 b7 s7 d1 d2 d3 d4 d5 d6 o2 o4 o5 hD HSRC q0 q1
  go_wp2_with (fail)
  refine HD.out.mono ?_
  rintro e w10 ⟨rfl, h10⟩
  obtain ⟨l, r, left, at_, lb, ls, di⟩ := h10.out
  obtain ⟨b8, b9⟩ := HB9.out
  obtain ⟨p7, b7, s7⟩ := HF7.out
  obtain ⟨d1, d2, d3, d4, d5, d6⟩ := HO.out
  obtain ⟨o2, o4, o5⟩ := HOS.out
  obtain ⟨r0, r1, hb5, hs5⟩ := HR.out
  have hbel : Below W5.heap.size W5 w10 := by
    have h1 := di.bx.bel
    rw [d3] at h1
    exact h1
  have x0 := Rw.below r0 hbel (by omega)
  have x1 := Rw.below r1 hbel (by omega)
  have p9 := Rw.but (Rw.but (Rw.but p7 b8 (by simp)) b9 (by simp)) di.but (by simp; omega)
  have q0 : w10.cell? ⟨w6.heap.size, 0, none⟩ = some (.pointer (some ⟨G.R, 0, none⟩)) := Rw.cell p9 0
  have q1 : w10.cell? ⟨w6.heap.size, 1, none⟩ = some (.iface 82 (.pointer (some ⟨X, 0, none⟩))) := Rw.cell p9 1
  have HL := left10 G X B w10 l r left at_ lb ls di.bx
  rw [di.rs, List.length_drop, o2, o4] at HL
  have HLH := Lib.hid HL
  have HX := Lib.hid (And.intro x0 x1)
  have HB10 : Hid (Below w.heap.size w w10) := Lib.hid (hb5.toBelow.trans (hbel.mono hb5.size))
  clear h10 di b8 b9 p7 b7 s7 d1 d2 d3 d4 d5 d6 o2 o4 o5 r0 r1 hb5 hs5 hbel x0 x1 p9 HL HD HB9 HF7 HR hW7 hW9
  go_wp2_with (fail)
  refine HLH.out.mono ?_
  rintro e w11 ⟨rfl, hb11⟩
  have HST := Lib.hid (state11 w11)
  have y0 := Rw.but HX.out.1 hb11 (by simp)
  have y1 := Rw.but HX.out.2 hb11 (by simp)
  have k0 : w11.cell? ⟨w.heap.size, 0, none⟩ = some (.int .i64 0) := Rw.cell y0 0
  have k1 : w11.cell? ⟨w.heap.size + 1, 0, none⟩ = some (.int .i64 0) := Rw.cell y1 0
  have f0 : w11.frozen? ⟨w.heap.size, 0, none⟩ = false := Rw.fz y0 0
  have f1 : w11.frozen? ⟨w.heap.size + 1, 0, none⟩ = false := Rw.fz y1 0
  obtain ⟨e0, e3, eb⟩ := two_put w11 w.heap.size _ _ (.int .i64 (q : Int)) (.int .i64 0) k0 k1
  have HB : Hid (Below w.heap.size w ((w11.setCell ⟨w.heap.size, 0, none⟩ (.int .i64 (q : Int))).setCell ⟨w.heap.size + 1, 0, none⟩ (.int .i64 0))) := Lib.hid ((HB10.out.trans (hb11.toBelow.mono HB10.out.size)).trans eb)
  have E0 := Lib.hid (And.intro e0 e3)
  clear e0 e3 eb HB10 hb11 HX HLH y0 y1 q0 q1
  go_wp2_with (fail)
  refine HST.out.mono ?_
  rintro e w12 ⟨rfl, rfl⟩
  go_wp2
  obtain ⟨e0, e3⟩ := E0.out
  refine leaves_cons (f := 12) (args := #[.pointer (some ⟨w.heap.size, 0, none⟩), .pointer (some ⟨w.heap.size + 1, 0, none⟩)]) (by simp) (by simp [go_sem]) ?_
  refine (catch12 _ _ _).mono ?_
  rintro e u' w'' ⟨rfl, rfl, rfl⟩
  simp [Leaves, settle, results, Tryd.results6, go_sem, e0, e3]
  exact HB.out
end Go.Proofs.YtbffilfacmdhdaaDoor.dec
