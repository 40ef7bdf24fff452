/-
  Proved: the contracts of utf8.word at a slice of bytes, and of utf8.Valid.
  Conditions: the two tables of utf8 read as their initialisers lay them.
-/
import Derived.Test.YtlcbcgillekphaaGreatDoorGg
import Derived.WalkLawsBesides
import Derived.Deep.QuietTactic
import Derived.BigQuiet
import Derived.Test.YtlcbcgillekphaaGreatDoorGa
import Derived.Lib.ValidAsc
import Derived.Shelf.Unicode.DecodeSlow
import Derived.Shelf.Unicode.ValidAny
import Derived.Deep.LoopGhost
import Derived.Deep.DeepMust
import Derived.Deep.CutBlock
import Derived.Deep.DeepCutAuto
import Derived.Outline
namespace Go.Proofs.YtlcbcgillekphaaGreatDoor.utf
open Go.RowKit Mem Go.Lib
set_option linter.unusedVariables false

/-- A slice's elements are the bytes of t. -/
def Src (w : World) (A x : Nat) (t : ByteArray) : Prop := ∀ j, j < t.size → w.cell? ⟨A, x + j, none⟩ = some (.int .u8 ((t.get! j).toNat : Int))
theorem Src.drew {w : World} {A x : Nat} {t : ByteArray} (h : Src w A x t) : Src w.drew A x t := h
theorem Src.drewN {w : World} {A x : Nat} {t : ByteArray} (h : Src w A x t) (n : Nat) : Src (w.drewN n) A x t := h
theorem get_ext (t : ByteArray) (k j : Nat) (h : k + j < t.size) : (t.extract k t.size).get! j = t.get! (k + j) := by
  rw [← getD_get!', ← getD_get!', ext_list, List.getD_eq_getElem?_getD, List.getElem?_drop, ← List.getD_eq_getElem?_getD]
theorem Src.ext {w : World} {A x : Nat} {t : ByteArray} (h : Src w A x t) (k : Nat) (hk : k < t.size) : Src w A (x + k) (t.extract k t.size) := fun j hj => by
  rw [ext_size] at hj
  rw [get_ext t k j (by omega), show x + k + j = x + (k + j) by omega]
  exact h (k + j) (by omega)
theorem Src.ext0 {w : World} {A : Nat} {t : ByteArray} (k y : Nat) (hk : t.size = k) : Src w A y (t.extract k t.size) := fun j hj => by
  rw [ext_size] at hj; omega
theorem Src.below {w w' : World} {A x : Nat} {t : ByteArray} (h : Src w A x t) (hb : Below w.heap.size w w') : Src w' A x t := fun j hj => by
  have := h j hj
  exact (hb.cell (p := ⟨A, x + j, none⟩) (block_lt_of_cell this)).trans this
theorem dn (w : World) (a b : Nat) : (w.drewN a).drewN b = w.drewN (a + b) := by simp [World.drewN, Nat.add_assoc]
theorem and_hiB (x : BitVec 64) : bits .and .u64 (wv x) 9259542123273814144 = wv (x &&& hiB) := by rw [← wv_hiB, wv_and]
theorem asc_word (t : ByteArray) (h8 : 8 ≤ t.size) (h : wordN t.data.toList &&& hiB = 0#64) : Asc t 8 := by
  have := low_of_wordN _ h
  intro b hb
  obtain ⟨i, hi, rfl⟩ := List.getElem_of_mem hb
  have hl : i < 8 ∧ i < t.data.toList.length := by rw [List.length_take] at hi; omega
  have h2 := this i hl.1
  rw [List.getD_eq_getElem?_getD, List.getElem?_eq_getElem hl.2] at h2
  rw [List.getElem_take]
  exact h2

set_option maxRecDepth 100000 in
theorem word61 (A x c : Nat) (t : ByteArray) (hs : 8 ≤ t.size) (w : World) (hS : Src w A x t) :
    Calls Tryz.prog 94 #[.slice (some ⟨A, x, none⟩) t.size c] w fun e w' => e = .returned (.int .u64 (wv (wordN t.data.toList))) ∧ ∃ n, w' = w.drewN n := by
  have k0 : (0 : Int) < (t.size : Int) := by omega
  have k1 : (1 : Int) < (t.size : Int) := by omega
  have k2 : (2 : Int) < (t.size : Int) := by omega
  have k3 : (3 : Int) < (t.size : Int) := by omega
  have k4 : (4 : Int) < (t.size : Int) := by omega
  have k5 : (5 : Int) < (t.size : Int) := by omega
  have k6 : (6 : Int) < (t.size : Int) := by omega
  have k7 : (7 : Int) < (t.size : Int) := by omega
  obtain ⟨x0, e0⟩ : ∃ y, t.get! 0 = y := ⟨_, rfl⟩
  obtain ⟨x1, e1⟩ : ∃ y, t.get! 1 = y := ⟨_, rfl⟩
  obtain ⟨x2, e2⟩ : ∃ y, t.get! 2 = y := ⟨_, rfl⟩
  obtain ⟨x3, e3⟩ : ∃ y, t.get! 3 = y := ⟨_, rfl⟩
  obtain ⟨x4, e4⟩ : ∃ y, t.get! 4 = y := ⟨_, rfl⟩
  obtain ⟨x5, e5⟩ : ∃ y, t.get! 5 = y := ⟨_, rfl⟩
  obtain ⟨x6, e6⟩ : ∃ y, t.get! 6 = y := ⟨_, rfl⟩
  obtain ⟨x7, e7⟩ : ∃ y, t.get! 7 = y := ⟨_, rfl⟩
  have c0 := hS 0 (by omega)
  rw [e0, Nat.add_zero] at c0
  have c1 := hS 1 (by omega)
  rw [e1] at c1
  have c2 := hS 2 (by omega)
  rw [e2] at c2
  have c3 := hS 3 (by omega)
  rw [e3] at c3
  have c4 := hS 4 (by omega)
  rw [e4] at c4
  have c5 := hS 5 (by omega)
  rw [e5] at c5
  have c6 := hS 6 (by omega)
  rw [e6] at c6
  have c7 := hS 7 (by omega)
  rw [e7] at c7
  have b0 := x0.toNat_lt
  have b1 := x1.toNat_lt
  have b2 := x2.toNat_lt
  have b3 := x3.toNat_lt
  have b4 := x4.toNat_lt
  have b5 := x5.toNat_lt
  have b6 := x6.toNat_lt
  have b7 := x7.toNat_lt
  clear hS
  go_enter Tryz.func94, Tryz.ntmps94
  go_wp2
  go_quiet (fail)
  go_wp2
  go_ret
  refine ⟨?_, nq, rfl⟩
  rw [wordN]
  simp only [getD_get!', e0, e1, e2, e3, e4, e5, e6, e7]
  rw [wordB]
  simp only [← wv_or]
  rw [← wv_shl x1 8 (by decide) 256 (by decide), ← wv_shl x2 16 (by decide) 65536 (by decide), ← wv_shl x3 24 (by decide) 16777216 (by decide), ← wv_shl x4 32 (by decide) 4294967296 (by decide), ← wv_shl x5 40 (by decide) 1099511627776 (by decide), ← wv_shl x6 48 (by decide) 281474976710656 (by decide), ← wv_shl x7 56 (by decide) 72057594037927936 (by decide), ← wv_bv x0]
  rfl

set_option maxRecDepth 1000000 in
set_option maxHeartbeats 16000000 in
theorem valid35 (A x0 c0 : Nat) (s : ByteArray) (w : World) (hS : Src w A x0 s) (hA : A < w.heap.size) (hc : s.size ≤ c0) (hs : s.size ≤ 1000000) (hc1 : c0 ≤ 9223372036854775807) (hT : Lib.Utf8Tabs 2 3 w) :
    Calls Tryz.prog 83 #[.slice (some ⟨A, x0, none⟩) s.size c0] w fun e w' => e = .returned (.bool (V s.data.toList)) ∧ Below w.heap.size w w' := by
  rw [← validD_V]
  obtain ⟨ANS, hANS⟩ : ∃ ANS, Lib.validD s.data.toList = ANS := ⟨_, rfl⟩
  rw [hANS]
  have h0 : (0 : Int) ≤ (s.size : Int) := by omega
  have h1 : (s.size : Int) ≤ (c0 : Int) := by omega
  have HS := Lib.hid hS
  have HT := Lib.hid hT
  clear hS hT
  go_enter Tryz.func83, Tryz.ntmps83
  go_wp2
  go_loopg [0] (s.size + 1) (fun gk s0 wx => Below w.heap.size w wx ∧ ∃ (x : Nat) (t : ByteArray), s0 = .slice (some ⟨A, x, none⟩) t.size t.size ∧ Hid (Src wx A x t ∧ Lib.validD t.data.toList = ANS) ∧ t.size < gk ∧ t.size ≤ s.size)
  case atStart => exact ⟨Below.refl _ _, x0, s, rfl, Lib.hid ⟨HS.out, hANS⟩, by omega, by omega⟩
  case round =>
    obtain ⟨hbw, x, t, rfl, HR, hg, hts⟩ := hrel
    clear hANS h0 h1 HS hc
    have hTr := Utf8Tabs_below HT.out hbw
    have hSt := HR.out.1
    have hv := HR.out.2
    by_cases h0 : 0 < t.size
    · obtain ⟨g', rfl⟩ : ∃ g', gk = g' + 1 := ⟨gk - 1, by omega⟩
      have h0z : (0 : Int) < (t.size : Int) := by omega
      have hz1 : (1 : Int) ≤ (t.size : Int) := by omega
      obtain ⟨x0', hx0⟩ : ∃ x0, t.get! 0 = x0 := ⟨_, rfl⟩
      have hc0' := hSt 0 h0
      rw [hx0, Nat.add_zero] at hc0'
      have hx0lt : x0'.toNat < 256 := x0'.toNat_lt
      by_cases hasc : x0'.toNat < 128
      · have hascz : (x0'.toNat : Int) < 128 := by omega
        have a1 : Lib.Asc t 1 := Lib.asc_one t h0 (by rw [hx0]; exact hasc)
        obtain ⟨t1, ht1⟩ : ∃ t1, t.extract 1 t.size = t1 := ⟨_, rfl⟩
        have z1 : t1.size + 1 = t.size := by rw [← ht1, Lib.ext_size]; omega
        have z1' : t.size - 1 = t1.size := by omega
        have v1 : Lib.validD t1.data.toList = ANS := by rw [← ht1, Lib.valid_skip t 1 a1]; exact hv
        by_cases hone : t.size = 1
        · have c8z : ¬ ((8 : Int) < (t1.size : Int)) := by omega
          have S1 : ∀ y, Src wr A y t1 := fun y => by rw [← ht1]; exact Src.ext0 1 y hone
          have HF := Lib.hid S1
          have HV := Lib.hid v1
          have HZ := Lib.hid z1
          have e0 : t1.size = 0 := by omega
          clear hTr hSt hv a1 v1 S1 ht1 z1 z1' c8z
          go_wp2
          go_roundg g'
          case measure => omega
          case rel => exact ⟨hbw, _, t1, by rw [e0], Lib.hid ⟨HF.out _, HV.out⟩, by omega, by omega⟩
        have hone' : ¬ t.size = 1 := hone
        have S1 : Src wr A (x + 1) t1 := by rw [← ht1]; exact hSt.ext 1 (by omega)
        clear hTr a1
        by_cases c8 : 8 < t1.size
        · have c8z : (8 : Int) < (t1.size : Int) := by omega
          have c8l : (8 : Int) ≤ (t1.size : Int) := by omega
          have c8n : ¬ t1.size = 8 := by omega
          have St1 := S1
          obtain ⟨W1, hW1⟩ : ∃ W, wordN t1.data.toList = W := ⟨_, rfl⟩
          have cW1 : Hid (∀ wx c, Below wr.heap.size wr wx → Calls Tryz.prog 94 #[.slice (some ⟨A, x + 1, none⟩) t1.size c] wx fun e w' => e = .returned (.int .u64 (wv W1)) ∧ ∃ q, w' = wx.drewN q) := Lib.hid fun wx c hb => by rw [← hW1]; exact word61 A (x + 1) c t1 (by omega) wx (St1.below hb)
          have k1 : W1 &&& hiB = 0#64 → Lib.Asc t1 8 := fun h => asc_word t1 (by omega) (by rw [hW1]; exact h)
          have hand1 := and_hiB W1
          obtain ⟨Z1, hZ1⟩ : ∃ Z1, W1 &&& hiB = Z1 := ⟨_, rfl⟩
          rw [hZ1] at hand1 k1
          have HV1 := Lib.hid v1
          have HB0 := Lib.hid (Below.refl wr.heap.size wr)
          by_cases hz1 : Z1 = 0#64
          · have hz1b : wv Z1 = 0 := (wv_zero _).2 hz1
            have a8 : Lib.Asc t1 8 := k1 hz1
            obtain ⟨t2, ht2⟩ : ∃ t2, t1.extract 8 t1.size = t2 := ⟨_, rfl⟩
            have z2 : t2.size + 8 = t1.size := by rw [← ht2, Lib.ext_size]; omega
            have z2' : t1.size - 8 = t2.size := by omega
            have v2 : Lib.validD t2.data.toList = ANS := by rw [← ht2, Lib.valid_skip t1 8 a8]; exact v1
            have S2 : Src wr A (x + 9) t2 := by rw [← ht2]; exact S1.ext 8 (by omega)
            clear k1 a8 v1 hv hSt
            go_wp2_with (go_at_call 94; go_must (refine (cW1.out _ _ HB0.out).mono ?_; rintro e W1' ⟨rfl, q1, rfl⟩))
            have HBQ : Hid (∀ q, Below wr.heap.size wr ((wr.drewN q1).drewN q)) := Lib.hid (fun q => below_drewNv (below_drewNv (Below.refl wr.heap.size wr) q1) q)
            have HBW : Hid (∀ q, Below w.heap.size w ((wr.drewN q1).drewN q)) := Lib.hid (fun q => below_drewNv (below_drewNv hbw q1) q)
            have HV2 := Lib.hid v2
            have HS2 : Hid (∀ q, Src ((wr.drewN q1).drewN q) A (x + 1 + 8) t2) := Lib.hid (fun q => (S2.drewN q1).drewN q)
            have HS2r := Lib.hid S2
            clear cW1 hbw v2 S1 S2 St1 ht1 hW1 hZ1
            generalize wr.drewN q1 = wq at HBQ HBW HS2 ⊢
            by_cases c16 : 16 < t2.size
            · as_aux_lemma =>
              have c16z : (16 : Int) < (t2.size : Int) := by omega
              have s8z : (8 : Int) ≤ (t2.size : Int) := by omega
              have s16z : (16 : Int) ≤ (t2.size : Int) := by omega
              have s8n : ¬ t2.size = 8 := by omega
              have s16n : ¬ t2.size = 16 := by omega
              obtain ⟨t2b, ht2b⟩ : ∃ t2b, t2.extract 8 t2.size = t2b := ⟨_, rfl⟩
              have z2b : t2b.size + 8 = t2.size := by rw [← ht2b, Lib.ext_size]; omega
              have z2b' : t2.size - 8 = t2b.size := by omega
              have St2 := HS2r.out
              have St2b : Src wr A (x + 1 + 8 + 8) t2b := by rw [← ht2b]; exact St2.ext 8 (by omega)
              obtain ⟨W2, hW2⟩ : ∃ W, wordN t2.data.toList = W := ⟨_, rfl⟩
              have cW2 : Hid (∀ wx c, Below wr.heap.size wr wx → Calls Tryz.prog 94 #[.slice (some ⟨A, x + 1 + 8, none⟩) t2.size c] wx fun e w' => e = .returned (.int .u64 (wv W2)) ∧ ∃ q, w' = wx.drewN q) := Lib.hid fun wx c hb => by rw [← hW2]; exact word61 A (x + 1 + 8) c t2 (by omega) wx (St2.below hb)
              obtain ⟨W2b, hW2b⟩ : ∃ W, wordN t2b.data.toList = W := ⟨_, rfl⟩
              have cW2b : Hid (∀ wx c, Below wr.heap.size wr wx → Calls Tryz.prog 94 #[.slice (some ⟨A, x + 1 + 8 + 8, none⟩) t2b.size c] wx fun e w' => e = .returned (.int .u64 (wv W2b)) ∧ ∃ q, w' = wx.drewN q) := Lib.hid fun wx c hb => by rw [← hW2b]; exact word61 A (x + 1 + 8 + 8) c t2b (by omega) wx (St2b.below hb)
              have hor2 : bits .or .u64 (wv W2) (wv W2b) = wv (W2 ||| W2b) := wv_or _ _
              have hand2 := and_hiB (W2 ||| W2b)
              have k2 : (W2 ||| W2b) &&& hiB = 0#64 → Lib.Asc t2 16 := fun h => by
                obtain ⟨e1, e2⟩ := or_hi _ _ h
                exact Lib.asc_add t2 8 8 (asc_word t2 (by omega) (by rw [hW2]; exact e1)) (by rw [ht2b]; exact asc_word t2b (by omega) (by rw [hW2b]; exact e2))
              obtain ⟨O2, hO2⟩ : ∃ O2, W2 ||| W2b = O2 := ⟨_, rfl⟩
              rw [hO2] at hor2 hand2 k2
              obtain ⟨Z2, hZ2⟩ : ∃ Z2, O2 &&& hiB = Z2 := ⟨_, rfl⟩
              rw [hZ2] at hand2 k2
              clear hO2 hZ2 hW2 hW2b
              by_cases hz2 : Z2 = 0#64
              · have hz2b : wv Z2 = 0 := (wv_zero _).2 hz2
                have hz2c : (wv Z2 == 0) = true := by rw [hz2b]; rfl
                have a16 := k2 hz2
                obtain ⟨t3, ht3⟩ : ∃ t3, t2.extract 16 t2.size = t3 := ⟨_, rfl⟩
                have z3 : t3.size + 16 = t2.size := by rw [← ht3, Lib.ext_size]; omega
                have z3' : t2.size - 16 = t3.size := by omega
                have v3 : Lib.validD t3.data.toList = ANS := by rw [← ht3, Lib.valid_skip t2 16 a16]; exact HV2.out
                have S3 : Src wr A (x + 1 + 8 + 16) t3 := by rw [← ht3]; exact St2.ext 16 (by omega)
                have H3 := Lib.hid (show Lib.validD t3.data.toList = ANS ∧ ∀ q, Src (wq.drewN q) A (x + 1 + 8 + 16) t3 from ⟨v3, fun q => S3.below (HBQ.out q)⟩)
                clear k2 a16 St2 St2b v3 S3
                go_quiet (first | (go_at_call 94; (with_reducible refine (cW2.out _ _ (HBQ.out _)).mono ?_); rintro e w9 ⟨rfl, q9, rfl⟩; exact ⟨rfl, _, dn _ _ _⟩) | (go_at_call 94; (with_reducible refine (cW2b.out _ _ (HBQ.out _)).mono ?_); rintro e w9 ⟨rfl, q9, rfl⟩; exact ⟨rfl, _, dn _ _ _⟩))
                go_wp2
                clear cW2 cW2b hand2 hor2
                obtain ⟨gO, hgO⟩ : ∃ gO, gO = g' := ⟨_, rfl⟩
                go_loopg [0] (t3.size + 1) (fun g2 s0 wx => Below w.heap.size w wx ∧ ∃ (y : Nat) (u : ByteArray), s0 = .slice (some ⟨A, y, none⟩) u.size u.size ∧ Hid (Src wx A y u ∧ Lib.validD u.data.toList = ANS) ∧ u.size < g2 ∧ u.size ≤ t3.size)
                case atStart => exact ⟨HBW.out _, _, t3, rfl, Lib.hid ⟨H3.out.2 _, H3.out.1⟩, by omega, Nat.le_refl _⟩
                case round =>
                  rename_i wr0 _ _ _ _
                  clear HBQ HBW H3 HS2 HS2r HV2 HB0 HV1
                  obtain ⟨hbu, y, u, rfl, HU, hgu, hut⟩ := hrel
                  have hv := HU.out.2
                  have Su := HU.out.1
                  have HBQ := Lib.hid (fun q => below_drewNv (Below.refl wr.heap.size wr) q)
                  have HBU := Lib.hid hbu
                  have HB4 := Lib.hid (fun q => (below_drewNv hbu q : Below w.heap.size w (wr.drewN q)))
                  clear hbu
                  by_cases c32 : 32 < u.size
                  · as_aux_lemma =>
                    obtain ⟨g3, rfl⟩ : ∃ g3, gk = g3 + 1 := ⟨gk - 1, by omega⟩
                    have c32z : (32 : Int) < (u.size : Int) := by omega
                    have s8u : (8 : Int) ≤ (u.size : Int) := by omega
                    have s16u : (16 : Int) ≤ (u.size : Int) := by omega
                    have s24u : (24 : Int) ≤ (u.size : Int) := by omega
                    have s32u : (32 : Int) ≤ (u.size : Int) := by omega
                    have n8 : ¬ u.size = 8 := by omega
                    have n16 : ¬ u.size = 16 := by omega
                    have n24 : ¬ u.size = 24 := by omega
                    have n32 : ¬ u.size = 32 := by omega
                    obtain ⟨ub, hub⟩ : ∃ v, u.extract 8 u.size = v := ⟨_, rfl⟩
                    have zub : ub.size + 8 = u.size := by rw [← hub, Lib.ext_size]; omega
                    have zub' : u.size - 8 = ub.size := by omega
                    have Sub : Src wr A (y + 8) ub := by rw [← hub]; exact Su.ext 8 (by omega)
                    obtain ⟨uc, huc⟩ : ∃ v, u.extract 16 u.size = v := ⟨_, rfl⟩
                    have zuc : uc.size + 16 = u.size := by rw [← huc, Lib.ext_size]; omega
                    have zuc' : u.size - 16 = uc.size := by omega
                    have Suc : Src wr A (y + 16) uc := by rw [← huc]; exact Su.ext 16 (by omega)
                    obtain ⟨ud, hud⟩ : ∃ v, u.extract 24 u.size = v := ⟨_, rfl⟩
                    have zud : ud.size + 24 = u.size := by rw [← hud, Lib.ext_size]; omega
                    have zud' : u.size - 24 = ud.size := by omega
                    have Sud : Src wr A (y + 24) ud := by rw [← hud]; exact Su.ext 24 (by omega)
                    obtain ⟨Wu, hWu⟩ : ∃ W, wordN u.data.toList = W := ⟨_, rfl⟩
                    have cWu : Hid (∀ wx c, Below wr.heap.size wr wx → Calls Tryz.prog 94 #[.slice (some ⟨A, y, none⟩) u.size c] wx fun e w' => e = .returned (.int .u64 (wv Wu)) ∧ ∃ q, w' = wx.drewN q) := Lib.hid fun wx c hb => by rw [← hWu]; exact word61 A (y) c u (by omega) wx (Su.below hb)
                    obtain ⟨Wub, hWub⟩ : ∃ W, wordN ub.data.toList = W := ⟨_, rfl⟩
                    have cWub : Hid (∀ wx c, Below wr.heap.size wr wx → Calls Tryz.prog 94 #[.slice (some ⟨A, y + 8, none⟩) ub.size c] wx fun e w' => e = .returned (.int .u64 (wv Wub)) ∧ ∃ q, w' = wx.drewN q) := Lib.hid fun wx c hb => by rw [← hWub]; exact word61 A (y + 8) c ub (by omega) wx (Sub.below hb)
                    obtain ⟨Wuc, hWuc⟩ : ∃ W, wordN uc.data.toList = W := ⟨_, rfl⟩
                    have cWuc : Hid (∀ wx c, Below wr.heap.size wr wx → Calls Tryz.prog 94 #[.slice (some ⟨A, y + 16, none⟩) uc.size c] wx fun e w' => e = .returned (.int .u64 (wv Wuc)) ∧ ∃ q, w' = wx.drewN q) := Lib.hid fun wx c hb => by rw [← hWuc]; exact word61 A (y + 16) c uc (by omega) wx (Suc.below hb)
                    obtain ⟨Wud, hWud⟩ : ∃ W, wordN ud.data.toList = W := ⟨_, rfl⟩
                    have cWud : Hid (∀ wx c, Below wr.heap.size wr wx → Calls Tryz.prog 94 #[.slice (some ⟨A, y + 24, none⟩) ud.size c] wx fun e w' => e = .returned (.int .u64 (wv Wud)) ∧ ∃ q, w' = wx.drewN q) := Lib.hid fun wx c hb => by rw [← hWud]; exact word61 A (y + 24) c ud (by omega) wx (Sud.below hb)
                    have ho1 : bits .or .u64 (wv Wu) (wv Wub) = wv (Wu ||| Wub) := wv_or _ _
                    have ho2 : bits .or .u64 (wv Wuc) (wv Wud) = wv (Wuc ||| Wud) := wv_or _ _
                    have ho3 : bits .or .u64 (wv (Wu ||| Wub)) (wv (Wuc ||| Wud)) = wv ((Wu ||| Wub) ||| (Wuc ||| Wud)) := wv_or _ _
                    have hand3 := and_hiB ((Wu ||| Wub) ||| (Wuc ||| Wud))
                    have k3 : ((Wu ||| Wub) ||| (Wuc ||| Wud)) &&& hiB = 0#64 → Lib.Asc u 32 := fun h0' => by
                      obtain ⟨e01, e23⟩ := or_hi _ _ h0'
                      obtain ⟨e0, e1⟩ := or_hi _ _ e01
                      obtain ⟨e2, e3⟩ := or_hi _ _ e23
                      have s16 : Lib.Asc u 16 := Lib.asc_add u 8 8 (asc_word u (by omega) (by rw [hWu]; exact e0)) (by rw [hub]; exact asc_word ub (by omega) (by rw [hWub]; exact e1))
                      have s24 : Lib.Asc u 24 := Lib.asc_add u 16 8 s16 (by rw [huc]; exact asc_word uc (by omega) (by rw [hWuc]; exact e2))
                      exact Lib.asc_add u 24 8 s24 (by rw [hud]; exact asc_word ud (by omega) (by rw [hWud]; exact e3))
                    obtain ⟨P1, hP1⟩ : ∃ P1, Wu ||| Wub = P1 := ⟨_, rfl⟩
                    obtain ⟨P2, hP2⟩ : ∃ P2, Wuc ||| Wud = P2 := ⟨_, rfl⟩
                    rw [hP1, hP2] at ho3 hand3 k3
                    rw [hP1] at ho1
                    rw [hP2] at ho2
                    obtain ⟨P3, hP3⟩ : ∃ P3, P1 ||| P2 = P3 := ⟨_, rfl⟩
                    rw [hP3] at ho3 hand3 k3
                    obtain ⟨Z3, hZ3⟩ : ∃ Z3, P3 &&& hiB = Z3 := ⟨_, rfl⟩
                    rw [hZ3] at hand3 k3
                    clear hP1 hP2 hP3 hZ3 hWu hWub hWuc hWud
                    by_cases hz3 : Z3 = 0#64
                    · have hz3b : wv Z3 = 0 := (wv_zero _).2 hz3
                      have hz3c : (wv Z3 == 0) = true := by rw [hz3b]; rfl
                      have a32 := k3 hz3
                      obtain ⟨u2, hu2⟩ : ∃ u2, u.extract 32 u.size = u2 := ⟨_, rfl⟩
                      have zu2 : u2.size + 32 = u.size := by rw [← hu2, Lib.ext_size]; omega
                      have zu2' : u.size - 32 = u2.size := by omega
                      have vu2 : Lib.validD u2.data.toList = ANS := by rw [← hu2, Lib.valid_skip u 32 a32]; exact hv
                      have Su2 : Src wr A (y + 32) u2 := by rw [← hu2]; exact Su.ext 32 (by omega)
                      have HU2 := Lib.hid (show Lib.validD u2.data.toList = ANS ∧ Src wr A (y + 32) u2 from ⟨vu2, Su2⟩)
                      clear k3 a32 vu2 Su2 Su Sub Suc Sud hv
                      go_wp2_with fail
                      go_quiet (first | (go_at_call 94; (with_reducible refine (cWu.out _ _ (HBQ.out _)).mono ?_); rintro e w9 ⟨rfl, q9, rfl⟩; exact ⟨rfl, _, dn _ _ _⟩) | (go_at_call 94; (with_reducible refine (cWub.out _ _ (HBQ.out _)).mono ?_); rintro e w9 ⟨rfl, q9, rfl⟩; exact ⟨rfl, _, dn _ _ _⟩) | (go_at_call 94; (with_reducible refine (cWuc.out _ _ (HBQ.out _)).mono ?_); rintro e w9 ⟨rfl, q9, rfl⟩; exact ⟨rfl, _, dn _ _ _⟩) | (go_at_call 94; (with_reducible refine (cWud.out _ _ (HBQ.out _)).mono ?_); rintro e w9 ⟨rfl, q9, rfl⟩; exact ⟨rfl, _, dn _ _ _⟩))
                      go_wp2
                      go_roundg g3
                      case measure => omega
                      case rel => exact ⟨HB4.out _, _, u2, rfl, Lib.hid ⟨(HU2.out.2).drewN _, HU2.out.1⟩, by omega, by omega⟩
                    · have hz3b : ¬ wv Z3 = 0 := fun e => hz3 ((wv_zero _).1 e)
                      have hz3c : (wv Z3 == 0) = false := by rw [beq_eq_false_iff_ne]; exact hz3b
                      clear k3 Su Sub Suc Sud hv
                      go_wp2_with fail
                      go_quiet (first | (go_at_call 94; (with_reducible refine (cWu.out _ _ (HBQ.out _)).mono ?_); rintro e w9 ⟨rfl, q9, rfl⟩; exact ⟨rfl, _, dn _ _ _⟩) | (go_at_call 94; (with_reducible refine (cWub.out _ _ (HBQ.out _)).mono ?_); rintro e w9 ⟨rfl, q9, rfl⟩; exact ⟨rfl, _, dn _ _ _⟩) | (go_at_call 94; (with_reducible refine (cWuc.out _ _ (HBQ.out _)).mono ?_); rintro e w9 ⟨rfl, q9, rfl⟩; exact ⟨rfl, _, dn _ _ _⟩) | (go_at_call 94; (with_reducible refine (cWud.out _ _ (HBQ.out _)).mono ?_); rintro e w9 ⟨rfl, q9, rfl⟩; exact ⟨rfl, _, dn _ _ _⟩))
                      go_wp2
                      go_roundg gO
                      case measure => omega
                      case rel => exact ⟨HB4.out _, _, u, rfl, Lib.hid ⟨(HU.out.1).drewN _, HU.out.2⟩, by omega, by omega⟩
                  · have c32z : ¬ ((32 : Int) < (u.size : Int)) := by omega
                    have c32b : decide ((32 : Int) < (u.size : Int)) = false := decide_eq_false c32z
                    clear hv Su
                    go_wp2_with fail
                    go_quiet (fail)
                    go_wp2
                    go_roundg gO
                    case measure => omega
                    case rel => exact ⟨HB4.out _, _, u, rfl, Lib.hid ⟨(HU.out.1).drewN _, HU.out.2⟩, by omega, by omega⟩
              · have hz2b : ¬ wv Z2 = 0 := fun e => hz2 ((wv_zero _).1 e)
                have hz2c : (wv Z2 == 0) = false := by rw [beq_eq_false_iff_ne]; exact hz2b
                clear k2 St2 St2b
                go_quiet (first | (go_at_call 94; (with_reducible refine (cW2.out _ _ (HBQ.out _)).mono ?_); rintro e w9 ⟨rfl, q9, rfl⟩; exact ⟨rfl, _, dn _ _ _⟩) | (go_at_call 94; (with_reducible refine (cW2b.out _ _ (HBQ.out _)).mono ?_); rintro e w9 ⟨rfl, q9, rfl⟩; exact ⟨rfl, _, dn _ _ _⟩))
                go_wp2
                go_roundg g'
                case measure => omega
                case rel => exact ⟨HBW.out _, _, t2, rfl, Lib.hid ⟨HS2.out _, HV2.out⟩, by omega, by omega⟩
            · have c16z : ¬ ((16 : Int) < (t2.size : Int)) := by omega
              have c16b : decide ((16 : Int) < (t2.size : Int)) = false := decide_eq_false c16z
              go_quiet (fail)
              go_wp2
              go_roundg g'
              case measure => omega
              case rel => exact ⟨HBW.out _, _, t2, rfl, Lib.hid ⟨HS2.out _, HV2.out⟩, by omega, by omega⟩
          · have hz1b : ¬ wv Z1 = 0 := fun e => hz1 ((wv_zero _).1 e)
            have HS1 := Lib.hid S1
            clear k1 v1 hv hSt S1 St1
            go_wp2_with (go_at_call 94; go_must (refine (cW1.out _ _ HB0.out).mono ?_; rintro e W1' ⟨rfl, q1, rfl⟩))
            go_roundg g'
            case measure => omega
            case rel => exact ⟨below_drewNv hbw q1, _, t1, rfl, Lib.hid ⟨(HS1.out).drewN _, HV1.out⟩, by omega, by omega⟩
        · have c8z : ¬ ((8 : Int) < (t1.size : Int)) := by omega
          have HS1 := Lib.hid (show Src wr A (x + 1) t1 ∧ Lib.validD t1.data.toList = ANS from ⟨S1, v1⟩)
          clear v1 hv hSt S1
          go_wp2
          go_roundg g'
          case measure => omega
          case rel => exact ⟨hbw, _, t1, rfl, HS1, by omega, by omega⟩
      · have hge : 128 ≤ x0'.toNat := by omega
        have hascz : ¬ ((x0'.toNat : Int) < 128) := by omega
        obtain ⟨x1, hx1⟩ : ∃ x1, t.get! 1 = x1 := ⟨_, rfl⟩
        obtain ⟨x2, hx2⟩ : ∃ x2, t.get! 2 = x2 := ⟨_, rfl⟩
        obtain ⟨x3, hx3⟩ : ∃ x3, t.get! 3 = x3 := ⟨_, rfl⟩
        have l1 := x1.toNat_lt; have l2 := x2.toNat_lt; have l3 := x3.toNat_lt
        have hne : t.data.toList ≠ [] := fun h => by rw [Lib.size_eq, h] at h0; simp at h0
        have hlead := Lib.validD_lead t.data.toList hne (by rw [Lib.getD_get!', hx0]; exact hge)
        rw [Lib.getD_get!', Lib.getD_get!', Lib.getD_get!', Lib.getD_get!', hx0, hx1, hx2, hx3, ← Lib.size_eq, hv] at hlead
        have hcF := hTr.1 x0'.toNat hx0lt
        have hXlt : Lib.firstT x0'.toNat < 256 := by rcases Lib.firstT_cases x0'.toNat with h | h | h | h | h | h | h | h | h <;> omega
        obtain ⟨X, hX⟩ : ∃ X, Lib.firstT x0'.toNat = X := ⟨_, rfl⟩
        rw [hX] at hcF hXlt hlead
        have h7 := and7 ⟨X, hXlt⟩
        simp only at h7
        have ha0 : wr.cell? ⟨3, X / 16 * 2, none⟩ = some (.int .u8 (Lib.accLo (X / 16))) := by rw [Nat.mul_comm]; exact (hTr.2 (X / 16) (by omega)).1
        have ha1 : wr.cell? ⟨3, X / 16 * 2 + 1, none⟩ = some (.int .u8 (Lib.accHi (X / 16))) := by rw [Nat.mul_comm]; exact (hTr.2 (X / 16) (by omega)).2
        obtain ⟨LO, hLO⟩ : ∃ LO, Lib.accLo (X / 16) = LO := ⟨_, rfl⟩
        obtain ⟨HI, hHI⟩ : ∃ HI, Lib.accHi (X / 16) = HI := ⟨_, rfl⟩
        rw [hLO] at ha0 hlead
        rw [hHI] at ha1 hlead
        obtain ⟨SZ, hSZ⟩ : ∃ SZ, X % 8 = SZ := ⟨_, rfl⟩
        rw [hSZ] at hlead
        have hAr : A < wr.heap.size := by have := hbw.size; omega
        have cellA : Hid (∀ (o : Obj) j, j < t.size → (wr.alloc o).cell? ⟨A, x + j, none⟩ = some (.int .u8 ((t.get! j).toNat : Int))) := Lib.hid fun o j hj => ((But.refl [] wr).alloc o).cellAt (hSt j hj) (by simp)
        have HBA : Hid (∀ o q, Below w.heap.size w ((wr.alloc o).drewN q)) := Lib.hid fun o q => below_drewNv (hbw.alloc hbw.size o) q
        have HSA : Hid (∀ k, k < t.size → ∀ wx, Below wr.heap.size wr wx → Src wx A (x + k) (t.extract k t.size)) := Lib.hid fun k hk wx hb => (hSt.ext k hk).below hb
        have HBB : Hid (∀ o q, Below wr.heap.size wr ((wr.alloc o).drewN q)) := Lib.hid fun o q => below_drewNv ((Below.refl _ _).alloc (Nat.le_refl _) o) q
        clear hTr hX hv hLO hHI hne hSt hbw
        by_cases s2 : SZ = 2
        · as_aux_lemma =>
          subst s2
          have hSZz : (X : Int) % 8 = 2 := by omega
          simp only [Lib.checkN, Nat.reduceEqDiff, if_true, if_false] at hlead
          go_upto_region 18 with fail
          go_cut [103] from 85 to 103 (fun c wx => c = .bool (decide (t.size < 2 ∨ x1.toNat < LO ∨ HI < x1.toNat)) ∧ ∃ q, (wr.alloc (.cells #[.int .u8 (LO : Int), .int .u8 (HI : Int)] 133)).drewN q = wx)
          case first =>
            by_cases q0 : t.size < 2
            · have q0z : (t.size : Int) < 2 := by omega
              go_quiet (fail)
              go_wp2
              go_meet
              exact ⟨congrArg Value.bool (decide_eq_true (p := t.size < 2 ∨ x1.toNat < LO ∨ HI < x1.toNat) (by omega)).symm, _, rfl⟩
            have q0z : ¬ ((t.size : Int) < 2) := by omega
            have hz1 : (1 : Int) < (t.size : Int) := by omega
            have hs1 : ∀ o, (wr.alloc o).cell? ⟨A, x + 1, none⟩ = some (.int .u8 (x1.toNat : Int)) := fun o => by rw [← hx1]; exact cellA.out o 1 (by omega)
            by_cases q1 : x1.toNat < LO
            · have q1z : (x1.toNat : Int) < (LO : Int) := by omega
              go_quiet (fail)
              go_wp2
              go_meet
              exact ⟨congrArg Value.bool (decide_eq_true (p := t.size < 2 ∨ x1.toNat < LO ∨ HI < x1.toNat) (by omega)).symm, _, rfl⟩
            have q1z : ¬ ((x1.toNat : Int) < (LO : Int)) := by omega
            by_cases q2 : HI < x1.toNat
            · have q2z : (HI : Int) < (x1.toNat : Int) := by omega
              go_quiet (fail)
              go_wp2
              go_meet
              exact ⟨congrArg Value.bool (decide_eq_true (p := t.size < 2 ∨ x1.toNat < LO ∨ HI < x1.toNat) (by omega)).symm, _, rfl⟩
            have q2z : ¬ ((HI : Int) < (x1.toNat : Int)) := by omega
            go_quiet (fail)
            go_wp2
            go_meet
            exact ⟨congrArg Value.bool (decide_eq_false (p := t.size < 2 ∨ x1.toNat < LO ∨ HI < x1.toNat) (by omega)).symm, _, rfl⟩
          case rest =>
            obtain ⟨rfl, qq, rfl⟩ := hcut
            by_cases hb : t.size < 2 ∨ x1.toNat < LO ∨ HI < x1.toNat
            · have hbd : decide (t.size < 2 ∨ x1.toNat < LO ∨ HI < x1.toNat) = true := decide_eq_true hb
              rw [if_pos hb] at hlead
              go_wp2
              all_goals (go_ret; exact ⟨by first | rfl | rw [hlead], HBA.out _ _⟩)
            · have hbd : decide (t.size < 2 ∨ x1.toNat < LO ∨ HI < x1.toNat) = false := decide_eq_false hb
              rw [if_neg hb] at hlead
              have hkz : (2 : Int) ≤ (t.size : Int) := by omega
              obtain ⟨t9, ht9⟩ : ∃ t9, t.extract 2 t.size = t9 := ⟨_, rfl⟩
              have z9 : t.size - 2 = t9.size := by rw [← ht9, Lib.ext_size]
              have v9 : Lib.validD t9.data.toList = ANS := by rw [← ht9, Lib.ext_list, hlead]
              by_cases hk : t.size = 2
              · have e9 : t9.size = 0 := by omega
                have S9 : Hid (∀ wx y, Src wx A y t9) := Lib.hid fun wx y => by rw [← ht9]; exact Src.ext0 2 y hk
                have HV9 := Lib.hid v9
                clear z9 v9 ht9 hlead
                go_wp2
                go_roundg g'
                case measure => omega
                case rel => exact ⟨HBA.out _ _, _, t9, by rw [e9], Lib.hid ⟨S9.out _ _, HV9.out⟩, by omega, by omega⟩
              · have S9 : Hid (∀ wx, Below wr.heap.size wr wx → Src wx A (x + 2) t9) := Lib.hid fun wx hb => by rw [← ht9]; exact HSA.out 2 (by omega) wx hb
                have HV9 := Lib.hid v9
                clear v9 ht9 hlead
                go_wp2
                go_roundg g'
                case measure => omega
                case rel => exact ⟨HBA.out _ _, _, t9, rfl, Lib.hid ⟨S9.out _ (HBB.out _ _), HV9.out⟩, by omega, by omega⟩
        by_cases s3 : SZ = 3
        · as_aux_lemma =>
          subst s3
          have hSZz : (X : Int) % 8 = 3 := by omega
          simp only [Lib.checkN, Nat.reduceEqDiff, if_true, if_false] at hlead
          go_upto_region 22 with fail
          go_cut [138] from 108 to 138 (fun c wx => c = .bool (decide (t.size < 3 ∨ x1.toNat < LO ∨ HI < x1.toNat ∨ x2.toNat < 128 ∨ 191 < x2.toNat)) ∧ ∃ q, (wr.alloc (.cells #[.int .u8 (LO : Int), .int .u8 (HI : Int)] 133)).drewN q = wx)
          case first =>
            by_cases q0 : t.size < 3
            · have q0z : (t.size : Int) < 3 := by omega
              go_quiet (fail)
              go_wp2
              go_meet
              exact ⟨congrArg Value.bool (decide_eq_true (p := t.size < 3 ∨ x1.toNat < LO ∨ HI < x1.toNat ∨ x2.toNat < 128 ∨ 191 < x2.toNat) (by omega)).symm, _, rfl⟩
            have q0z : ¬ ((t.size : Int) < 3) := by omega
            have hz1 : (1 : Int) < (t.size : Int) := by omega
            have hs1 : ∀ o, (wr.alloc o).cell? ⟨A, x + 1, none⟩ = some (.int .u8 (x1.toNat : Int)) := fun o => by rw [← hx1]; exact cellA.out o 1 (by omega)
            have hz2 : (2 : Int) < (t.size : Int) := by omega
            have hs2 : ∀ o, (wr.alloc o).cell? ⟨A, x + 2, none⟩ = some (.int .u8 (x2.toNat : Int)) := fun o => by rw [← hx2]; exact cellA.out o 2 (by omega)
            by_cases q1 : x1.toNat < LO
            · have q1z : (x1.toNat : Int) < (LO : Int) := by omega
              go_quiet (fail)
              go_wp2
              go_meet
              exact ⟨congrArg Value.bool (decide_eq_true (p := t.size < 3 ∨ x1.toNat < LO ∨ HI < x1.toNat ∨ x2.toNat < 128 ∨ 191 < x2.toNat) (by omega)).symm, _, rfl⟩
            have q1z : ¬ ((x1.toNat : Int) < (LO : Int)) := by omega
            by_cases q2 : HI < x1.toNat
            · have q2z : (HI : Int) < (x1.toNat : Int) := by omega
              go_quiet (fail)
              go_wp2
              go_meet
              exact ⟨congrArg Value.bool (decide_eq_true (p := t.size < 3 ∨ x1.toNat < LO ∨ HI < x1.toNat ∨ x2.toNat < 128 ∨ 191 < x2.toNat) (by omega)).symm, _, rfl⟩
            have q2z : ¬ ((HI : Int) < (x1.toNat : Int)) := by omega
            by_cases q3 : x2.toNat < 128
            · have q3z : (x2.toNat : Int) < 128 := by omega
              go_quiet (fail)
              go_wp2
              go_meet
              exact ⟨congrArg Value.bool (decide_eq_true (p := t.size < 3 ∨ x1.toNat < LO ∨ HI < x1.toNat ∨ x2.toNat < 128 ∨ 191 < x2.toNat) (by omega)).symm, _, rfl⟩
            have q3z : ¬ ((x2.toNat : Int) < 128) := by omega
            by_cases q4 : 191 < x2.toNat
            · have q4z : (191 : Int) < (x2.toNat : Int) := by omega
              go_quiet (fail)
              go_wp2
              go_meet
              exact ⟨congrArg Value.bool (decide_eq_true (p := t.size < 3 ∨ x1.toNat < LO ∨ HI < x1.toNat ∨ x2.toNat < 128 ∨ 191 < x2.toNat) (by omega)).symm, _, rfl⟩
            have q4z : ¬ ((191 : Int) < (x2.toNat : Int)) := by omega
            go_quiet (fail)
            go_wp2
            go_meet
            exact ⟨congrArg Value.bool (decide_eq_false (p := t.size < 3 ∨ x1.toNat < LO ∨ HI < x1.toNat ∨ x2.toNat < 128 ∨ 191 < x2.toNat) (by omega)).symm, _, rfl⟩
          case rest =>
            obtain ⟨rfl, qq, rfl⟩ := hcut
            by_cases hb : t.size < 3 ∨ x1.toNat < LO ∨ HI < x1.toNat ∨ x2.toNat < 128 ∨ 191 < x2.toNat
            · have hbd : decide (t.size < 3 ∨ x1.toNat < LO ∨ HI < x1.toNat ∨ x2.toNat < 128 ∨ 191 < x2.toNat) = true := decide_eq_true hb
              rw [if_pos hb] at hlead
              go_wp2
              all_goals (go_ret; exact ⟨by first | rfl | rw [hlead], HBA.out _ _⟩)
            · have hbd : decide (t.size < 3 ∨ x1.toNat < LO ∨ HI < x1.toNat ∨ x2.toNat < 128 ∨ 191 < x2.toNat) = false := decide_eq_false hb
              rw [if_neg hb] at hlead
              have hkz : (3 : Int) ≤ (t.size : Int) := by omega
              obtain ⟨t9, ht9⟩ : ∃ t9, t.extract 3 t.size = t9 := ⟨_, rfl⟩
              have z9 : t.size - 3 = t9.size := by rw [← ht9, Lib.ext_size]
              have v9 : Lib.validD t9.data.toList = ANS := by rw [← ht9, Lib.ext_list, hlead]
              by_cases hk : t.size = 3
              · have e9 : t9.size = 0 := by omega
                have S9 : Hid (∀ wx y, Src wx A y t9) := Lib.hid fun wx y => by rw [← ht9]; exact Src.ext0 3 y hk
                have HV9 := Lib.hid v9
                clear z9 v9 ht9 hlead
                go_wp2
                go_roundg g'
                case measure => omega
                case rel => exact ⟨HBA.out _ _, _, t9, by rw [e9], Lib.hid ⟨S9.out _ _, HV9.out⟩, by omega, by omega⟩
              · have S9 : Hid (∀ wx, Below wr.heap.size wr wx → Src wx A (x + 3) t9) := Lib.hid fun wx hb => by rw [← ht9]; exact HSA.out 3 (by omega) wx hb
                have HV9 := Lib.hid v9
                clear v9 ht9 hlead
                go_wp2
                go_roundg g'
                case measure => omega
                case rel => exact ⟨HBA.out _ _, _, t9, rfl, Lib.hid ⟨S9.out _ (HBB.out _ _), HV9.out⟩, by omega, by omega⟩
        by_cases s4 : SZ = 4
        · as_aux_lemma =>
          subst s4
          have hSZz : (X : Int) % 8 = 4 := by omega
          simp only [Lib.checkN, Nat.reduceEqDiff, if_true, if_false] at hlead
          go_upto_region 26 with fail
          go_cut [185] from 143 to 185 (fun c wx => c = .bool (decide (t.size < 4 ∨ x1.toNat < LO ∨ HI < x1.toNat ∨ x2.toNat < 128 ∨ 191 < x2.toNat ∨ x3.toNat < 128 ∨ 191 < x3.toNat)) ∧ ∃ q, (wr.alloc (.cells #[.int .u8 (LO : Int), .int .u8 (HI : Int)] 133)).drewN q = wx)
          case first =>
            by_cases q0 : t.size < 4
            · have q0z : (t.size : Int) < 4 := by omega
              go_quiet (fail)
              go_wp2
              go_meet
              exact ⟨congrArg Value.bool (decide_eq_true (p := t.size < 4 ∨ x1.toNat < LO ∨ HI < x1.toNat ∨ x2.toNat < 128 ∨ 191 < x2.toNat ∨ x3.toNat < 128 ∨ 191 < x3.toNat) (by omega)).symm, _, rfl⟩
            have q0z : ¬ ((t.size : Int) < 4) := by omega
            have hz1 : (1 : Int) < (t.size : Int) := by omega
            have hs1 : ∀ o, (wr.alloc o).cell? ⟨A, x + 1, none⟩ = some (.int .u8 (x1.toNat : Int)) := fun o => by rw [← hx1]; exact cellA.out o 1 (by omega)
            have hz2 : (2 : Int) < (t.size : Int) := by omega
            have hs2 : ∀ o, (wr.alloc o).cell? ⟨A, x + 2, none⟩ = some (.int .u8 (x2.toNat : Int)) := fun o => by rw [← hx2]; exact cellA.out o 2 (by omega)
            have hz3 : (3 : Int) < (t.size : Int) := by omega
            have hs3 : ∀ o, (wr.alloc o).cell? ⟨A, x + 3, none⟩ = some (.int .u8 (x3.toNat : Int)) := fun o => by rw [← hx3]; exact cellA.out o 3 (by omega)
            by_cases q1 : x1.toNat < LO
            · have q1z : (x1.toNat : Int) < (LO : Int) := by omega
              go_quiet (fail)
              go_wp2
              go_meet
              exact ⟨congrArg Value.bool (decide_eq_true (p := t.size < 4 ∨ x1.toNat < LO ∨ HI < x1.toNat ∨ x2.toNat < 128 ∨ 191 < x2.toNat ∨ x3.toNat < 128 ∨ 191 < x3.toNat) (by omega)).symm, _, rfl⟩
            have q1z : ¬ ((x1.toNat : Int) < (LO : Int)) := by omega
            by_cases q2 : HI < x1.toNat
            · have q2z : (HI : Int) < (x1.toNat : Int) := by omega
              go_quiet (fail)
              go_wp2
              go_meet
              exact ⟨congrArg Value.bool (decide_eq_true (p := t.size < 4 ∨ x1.toNat < LO ∨ HI < x1.toNat ∨ x2.toNat < 128 ∨ 191 < x2.toNat ∨ x3.toNat < 128 ∨ 191 < x3.toNat) (by omega)).symm, _, rfl⟩
            have q2z : ¬ ((HI : Int) < (x1.toNat : Int)) := by omega
            by_cases q3 : x2.toNat < 128
            · have q3z : (x2.toNat : Int) < 128 := by omega
              go_quiet (fail)
              go_wp2
              go_meet
              exact ⟨congrArg Value.bool (decide_eq_true (p := t.size < 4 ∨ x1.toNat < LO ∨ HI < x1.toNat ∨ x2.toNat < 128 ∨ 191 < x2.toNat ∨ x3.toNat < 128 ∨ 191 < x3.toNat) (by omega)).symm, _, rfl⟩
            have q3z : ¬ ((x2.toNat : Int) < 128) := by omega
            by_cases q4 : 191 < x2.toNat
            · have q4z : (191 : Int) < (x2.toNat : Int) := by omega
              go_quiet (fail)
              go_wp2
              go_meet
              exact ⟨congrArg Value.bool (decide_eq_true (p := t.size < 4 ∨ x1.toNat < LO ∨ HI < x1.toNat ∨ x2.toNat < 128 ∨ 191 < x2.toNat ∨ x3.toNat < 128 ∨ 191 < x3.toNat) (by omega)).symm, _, rfl⟩
            have q4z : ¬ ((191 : Int) < (x2.toNat : Int)) := by omega
            by_cases q5 : x3.toNat < 128
            · have q5z : (x3.toNat : Int) < 128 := by omega
              go_quiet (fail)
              go_wp2
              go_meet
              exact ⟨congrArg Value.bool (decide_eq_true (p := t.size < 4 ∨ x1.toNat < LO ∨ HI < x1.toNat ∨ x2.toNat < 128 ∨ 191 < x2.toNat ∨ x3.toNat < 128 ∨ 191 < x3.toNat) (by omega)).symm, _, rfl⟩
            have q5z : ¬ ((x3.toNat : Int) < 128) := by omega
            by_cases q6 : 191 < x3.toNat
            · have q6z : (191 : Int) < (x3.toNat : Int) := by omega
              go_quiet (fail)
              go_wp2
              go_meet
              exact ⟨congrArg Value.bool (decide_eq_true (p := t.size < 4 ∨ x1.toNat < LO ∨ HI < x1.toNat ∨ x2.toNat < 128 ∨ 191 < x2.toNat ∨ x3.toNat < 128 ∨ 191 < x3.toNat) (by omega)).symm, _, rfl⟩
            have q6z : ¬ ((191 : Int) < (x3.toNat : Int)) := by omega
            go_quiet (fail)
            go_wp2
            go_meet
            exact ⟨congrArg Value.bool (decide_eq_false (p := t.size < 4 ∨ x1.toNat < LO ∨ HI < x1.toNat ∨ x2.toNat < 128 ∨ 191 < x2.toNat ∨ x3.toNat < 128 ∨ 191 < x3.toNat) (by omega)).symm, _, rfl⟩
          case rest =>
            obtain ⟨rfl, qq, rfl⟩ := hcut
            by_cases hb : t.size < 4 ∨ x1.toNat < LO ∨ HI < x1.toNat ∨ x2.toNat < 128 ∨ 191 < x2.toNat ∨ x3.toNat < 128 ∨ 191 < x3.toNat
            · have hbd : decide (t.size < 4 ∨ x1.toNat < LO ∨ HI < x1.toNat ∨ x2.toNat < 128 ∨ 191 < x2.toNat ∨ x3.toNat < 128 ∨ 191 < x3.toNat) = true := decide_eq_true hb
              rw [if_pos hb] at hlead
              go_wp2
              all_goals (go_ret; exact ⟨by first | rfl | rw [hlead], HBA.out _ _⟩)
            · have hbd : decide (t.size < 4 ∨ x1.toNat < LO ∨ HI < x1.toNat ∨ x2.toNat < 128 ∨ 191 < x2.toNat ∨ x3.toNat < 128 ∨ 191 < x3.toNat) = false := decide_eq_false hb
              rw [if_neg hb] at hlead
              have hkz : (4 : Int) ≤ (t.size : Int) := by omega
              obtain ⟨t9, ht9⟩ : ∃ t9, t.extract 4 t.size = t9 := ⟨_, rfl⟩
              have z9 : t.size - 4 = t9.size := by rw [← ht9, Lib.ext_size]
              have v9 : Lib.validD t9.data.toList = ANS := by rw [← ht9, Lib.ext_list, hlead]
              by_cases hk : t.size = 4
              · have e9 : t9.size = 0 := by omega
                have S9 : Hid (∀ wx y, Src wx A y t9) := Lib.hid fun wx y => by rw [← ht9]; exact Src.ext0 4 y hk
                have HV9 := Lib.hid v9
                clear z9 v9 ht9 hlead
                go_wp2
                go_roundg g'
                case measure => omega
                case rel => exact ⟨HBA.out _ _, _, t9, by rw [e9], Lib.hid ⟨S9.out _ _, HV9.out⟩, by omega, by omega⟩
              · have S9 : Hid (∀ wx, Below wr.heap.size wr wx → Src wx A (x + 4) t9) := Lib.hid fun wx hb => by rw [← ht9]; exact HSA.out 4 (by omega) wx hb
                have HV9 := Lib.hid v9
                clear v9 ht9 hlead
                go_wp2
                go_roundg g'
                case measure => omega
                case rel => exact ⟨HBA.out _ _, _, t9, rfl, Lib.hid ⟨S9.out _ (HBB.out _ _), HV9.out⟩, by omega, by omega⟩
        have hSZ2 : ¬ (X : Int) % 8 = 2 := by omega
        have hSZ3 : ¬ (X : Int) % 8 = 3 := by omega
        have hSZ4 : ¬ (X : Int) % 8 = 4 := by omega
        rw [Lib.checkN, if_neg s2, if_neg s3, if_neg s4] at hlead
        have HF : Hid (∀ o q, Below w.heap.size w ((wr.alloc o).drewN q)) := HBA
        go_wp2
        go_ret
        exact ⟨by first | rfl | rw [hlead], HBA.out _ 0⟩
    · have h0z : ¬ (0 : Int) < (t.size : Int) := by omega
      have he : t.data.toList = [] := List.eq_nil_of_length_eq_zero (by rw [← Lib.size_eq]; omega)
      rw [he] at hv
      have hv2 : ANS = true := hv.symm.trans rfl
      clear hv hTr hSt
      go_wp2
      go_ret
      exact ⟨rfl, hbw⟩
end Go.Proofs.YtlcbcgillekphaaGreatDoor.utf
