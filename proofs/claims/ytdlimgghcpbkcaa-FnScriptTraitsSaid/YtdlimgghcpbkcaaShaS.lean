/-
  Proved: the contract of spec.block: a block of SHA-1.
  Conditions: the slice's 64 cells are bytes.
-/
import Derived.Test.YtdlimgghcpbkcaaShaA
import Derived.Test.YtdlimgghcpbkcaaQt
import Derived.Deep.RegionHeld3
import Derived.Deep.RegionWith
import Derived.Deep.QuietTactic
import Derived.StillTailTactics
import Derived.Great.BuildSlice
namespace Go.Proofs.Ytdlimgghcpbkcaa.sha
open Go.RowKit Mem Go.Great
set_option linter.unusedVariables false

theorem heap_alloc_size (w : World) (o : Obj) : (w.alloc o).heap.size = w.heap.size + 1 := by simp
theorem zeros80 : (Array.replicate 80 (Value.int .u32 0)) = arr 80 (fun _ => 0#32) := by kernel_rfl
/-- The words of the schedule so far. -/
def Wt (b : Nat → BitVec 32) (t : Nat) (i : Nat) : BitVec 32 := if i < t then W b i else 0#32
theorem Wt_step (b : Nat → BitVec 32) (t i : Nat) : (if i = t then W b t else Wt b t i) = Wt b (t + 1) i := by
  unfold Wt
  by_cases h : i = t
  · subst h; simp
  · rw [if_neg h]
    by_cases hi : i < t
    · rw [if_pos hi, if_pos (by omega)]
    · rw [if_neg hi, if_neg (by omega)]

structure In1 (w : World) (b : Nat → BitVec 32) (h : S5) (g o : Nat) (t : Nat) (wr : World) : Prop where
  bel : Below w.heap.size w wr
  sz : wr.heap.size = w.heap.size + 3
  hr : Row wr w.heap.size 5 60 h.f
  rr : Row wr (w.heap.size + 1) 5 60 (fun _ => 0#32)
  wt : Row wr (w.heap.size + 2) 80 102 (Wt b t)
  hb : ∀ i, i < 64 → wr.cell? ⟨g, o + i, none⟩ = some (.int .u8 (iv (b i)))

theorem In1.step {w : World} {b : Nat → BitVec 32} {h : S5} {g o t : Nat} {wr : World} (I : In1 w b h g o t wr) (hg : g < w.heap.size) :
    In1 w b h g o (t + 1) (wr.setCell ⟨w.heap.size + 2, t, none⟩ (.int .u32 (iv (W b t)))) := by
  have bb : But [w.heap.size + 2] wr (wr.setCell ⟨w.heap.size + 2, t, none⟩ (.int .u32 (iv (W b t)))) := (But.refl _ wr).setCell (Or.inl (by simp)) _
  refine ⟨I.bel.trans (bb.below _ I.bel.size (by simp)), ?_, I.hr.old bb (by simp), I.rr.old bb (by simp), (I.wt.set t (W b t)).congr (fun i _ => Wt_step b t i), fun i hi => ?_⟩
  · rw [← I.sz]; simp [World.setCell]
  · rw [bb.cell (block_lt_of_cell (I.hb i hi)) (by simp; omega)]; exact I.hb i hi
theorem In1.drew {w : World} {b : Nat → BitVec 32} {h : S5} {g o t : Nat} {wr : World} (I : In1 w b h g o t wr) : In1 w b h g o t wr.drew := ⟨I.bel.drew, I.sz, I.hr, I.rr, I.wt, I.hb⟩
theorem index_arr (f : Nat → BitVec 32) (t : Nat) (ht : t < 80) (W : World) : (Instr.index 102 (.agg (arr 80 f)) (.int .i64 (t : Int))).run Try.prog W = .ok (.int .u32 (iv (f t))) W := by
  have hz : (Go.sizeOf 59).run Try.prog W = .ok 1 W := by kernel_rfl
  have h0 : (0 : Int) ≤ t := by omega
  simp [Instr.index, asIntOf, run_underlying Try.underlying102 W, h0, ht, hz, part, arr_get f ht]

/-- The state of the rounds. -/
structure In2 (w : World) (b : Nat → BitVec 32) (h : S5) (t : Nat) (wr : World) : Prop where
  bel : Below w.heap.size w wr
  sz : wr.heap.size = w.heap.size + 4
  hr : Row wr w.heap.size 5 60 h.f
  rr : Row wr (w.heap.size + 1) 5 60 (fun _ => 0#32)
  vr : Row wr (w.heap.size + 3) 5 60 (rounds h b t).f
theorem In2.drewN {w : World} {b : Nat → BitVec 32} {h : S5} {t : Nat} {wr : World} (I : In2 w b h t wr) (n : Nat) : In2 w b h t (wr.drewN n) := ⟨⟨I.bel.os, I.bel.tape, I.bel.output, I.bel.size, I.bel.block⟩, I.sz, I.hr, I.rr, I.vr⟩
theorem Row.set5 {w : World} {k : Nat} {T : TypeId} {f : Nat → BitVec 32} (h : Row w k 5 T f) (s : S5) :
    Row (((((w.setCell ⟨k, 0, none⟩ (.int .u32 (iv s.a))).setCell ⟨k, 1, none⟩ (.int .u32 (iv s.b))).setCell ⟨k, 2, none⟩ (.int .u32 (iv s.c))).setCell ⟨k, 3, none⟩ (.int .u32 (iv s.d))).setCell ⟨k, 4, none⟩ (.int .u32 (iv s.e))) k 5 T s.f :=
  (((((h.set 0 s.a).set 1 s.b).set 2 s.c).set 3 s.d).set 4 s.e).congr (fun i hi => by
    obtain rfl | rfl | rfl | rfl | rfl : i = 0 ∨ i = 1 ∨ i = 2 ∨ i = 3 ∨ i = 4 := by omega
    all_goals rfl)
theorem but5 (w : World) (k : Nat) (a b c d e : Value) :
    But [k] w (((((w.setCell ⟨k, 0, none⟩ a).setCell ⟨k, 1, none⟩ b).setCell ⟨k, 2, none⟩ c).setCell ⟨k, 3, none⟩ d).setCell ⟨k, 4, none⟩ e) :=
  (((((But.refl [k] w).setCell (Or.inl (by simp)) _).setCell (Or.inl (by simp)) _).setCell (Or.inl (by simp)) _).setCell (Or.inl (by simp)) _).setCell (Or.inl (by simp)) _
theorem size5 (w : World) (k : Nat) (a b c d e : Value) :
    (((((w.setCell ⟨k, 0, none⟩ a).setCell ⟨k, 1, none⟩ b).setCell ⟨k, 2, none⟩ c).setCell ⟨k, 3, none⟩ d).setCell ⟨k, 4, none⟩ e).heap.size = w.heap.size := by simp [World.setCell]
theorem In2.step {w : World} {b : Nat → BitVec 32} {h : S5} {t : Nat} {wr : World} (I : In2 w b h t wr) (s : S5) (hs : s = rounds h b (t + 1)) :
    In2 w b h (t + 1) (((((wr.setCell ⟨w.heap.size + 3, 0, none⟩ (.int .u32 (iv s.a))).setCell ⟨w.heap.size + 3, 1, none⟩ (.int .u32 (iv s.b))).setCell ⟨w.heap.size + 3, 2, none⟩ (.int .u32 (iv s.c))).setCell ⟨w.heap.size + 3, 3, none⟩ (.int .u32 (iv s.d))).setCell ⟨w.heap.size + 3, 4, none⟩ (.int .u32 (iv s.e))) := by
  have bb := but5 wr (w.heap.size + 3) (.int .u32 (iv s.a)) (.int .u32 (iv s.b)) (.int .u32 (iv s.c)) (.int .u32 (iv s.d)) (.int .u32 (iv s.e))
  refine ⟨I.bel.trans (bb.below _ I.bel.size (by simp)), by rw [size5]; exact I.sz, I.hr.old bb (by simp), I.rr.old bb (by simp), ?_⟩
  rw [← hs]
  exact I.vr.set5 s

/-- The sum of the states so far. -/
def addTo (h v : S5) (i j : Nat) : BitVec 32 := if j < i then h.f j + v.f j else h.f j
theorem addTo_step (h v : S5) (i j : Nat) : (if j = i then h.f i + v.f i else addTo h v i j) = addTo h v (i + 1) j := by
  unfold addTo
  by_cases e : j = i
  · subst e; simp
  · rw [if_neg e]
    by_cases hi : j < i
    · rw [if_pos hi, if_pos (by omega)]
    · rw [if_neg hi, if_neg (by omega)]
structure In3 (w : World) (h v : S5) (i : Nat) (wr : World) : Prop where
  bel : Below w.heap.size w wr
  sz : wr.heap.size = w.heap.size + 4
  hr : Row wr w.heap.size 5 60 (addTo h v i)
  rr : Row wr (w.heap.size + 1) 5 60 (fun _ => 0#32)
  vr : Row wr (w.heap.size + 3) 5 60 v.f
theorem In3.drew {w : World} {h v : S5} {t : Nat} {wr : World} (I : In3 w h v t wr) : In3 w h v t wr.drew := ⟨I.bel.drew, I.sz, I.hr, I.rr, I.vr⟩
theorem In3.step {w : World} {h v : S5} {i : Nat} {wr : World} (I : In3 w h v i wr) : In3 w h v (i + 1) (wr.setCell ⟨w.heap.size, i, none⟩ (.int .u32 (iv (h.f i + v.f i)))) := by
  have bb : But [w.heap.size] wr (wr.setCell ⟨w.heap.size, i, none⟩ (.int .u32 (iv (h.f i + v.f i)))) := (But.refl _ wr).setCell (Or.inl (by simp)) _
  refine ⟨I.bel.trans (bb.below _ I.bel.size (by simp)), ?_, (I.hr.set i _).congr (fun j _ => addTo_step h v i j), I.rr.old bb (by simp), I.vr.old bb (by simp)⟩
  rw [← I.sz]; simp [World.setCell]

theorem word_iv (b0 b1 b2 b3 : BitVec 32) (h0 : iv b0 ≤ 255) (h1 : iv b1 ≤ 255) (h2 : iv b2 ≤ 255) :
    bits .or .u32 (bits .or .u32 (bits .or .u32 (iv b0 * 16777216) (iv b1 * 65536)) (iv b2 * 256)) (iv b3) = iv (((b0 <<< 24 ||| b1 <<< 16) ||| b2 <<< 8) ||| b3) := by
  have l0 := iv_lo b0; have l1 := iv_lo b1; have l2 := iv_lo b2
  have e0 : iv b0 * (16777216 : Int) = iv (b0 <<< 24) := by rw [← iv_shl, IntKind.wrap_u32]; omega
  have e1 : iv b1 * (65536 : Int) = iv (b1 <<< 16) := by rw [← iv_shl, IntKind.wrap_u32]; omega
  have e2 : iv b2 * (256 : Int) = iv (b2 <<< 8) := by rw [← iv_shl, IntKind.wrap_u32]; omega
  rw [e0, e1, e2, iv_or, iv_or, iv_or]

set_option maxRecDepth 100000 in
set_option maxHeartbeats 8000000 in
theorem spec28 (h : S5) (g o cap : Nat) (b : Nat → BitVec 32) (w : World) (h8 : ∀ i, iv (b i) ≤ 255) (hb : ∀ i, i < 64 → w.cell? ⟨g, o + i, none⟩ = some (.int .u8 (iv (b i)))) :
    Calls Try.prog 28 #[.agg #[.int .u32 (iv h.a), .int .u32 (iv h.b), .int .u32 (iv h.c), .int .u32 (iv h.d), .int .u32 (iv h.e)], .slice (some ⟨g, o, none⟩) 64 cap] w fun e w' => e = .returned (.agg (arr 5 (block h b).f)) ∧ Below w.heap.size w w' := by
  have hg : g < w.heap.size := by
    have := hb 0 (by omega)
    exact block_lt_of_cell this
  go_enter Try.func28, Try.ntmps28
  apply wp_seq_k; intro K0 hK0
  apply wp_region_lit
  refine wpList_runTo rfl (some 2) rfl (.pointer (some ⟨w.heap.size, 0, none⟩)) (w.alloc (.cells (arr 5 h.f) 60)) (by as_aux_lemma => kernel_rfl) ?_
  obtain ⟨W1, hW1⟩ : ∃ W1, w.alloc (.cells (arr 5 h.f) 60) = W1 := ⟨_, rfl⟩
  have z1 : W1.heap.size = w.heap.size + 1 := by rw [← hW1]; exact heap_alloc_size _ _
  rw [hW1]
  refine wpList_runTo rfl (some 4) rfl (.pointer (some ⟨W1.heap.size, 0, none⟩)) (W1.alloc (.cells (arr 5 (fun _ => 0#32)) 60)) (by as_aux_lemma => kernel_rfl) ?_
  obtain ⟨W2, hW2⟩ : ∃ W2, W1.alloc (.cells (arr 5 (fun _ => 0#32)) 60) = W2 := ⟨_, rfl⟩
  have z2 : W2.heap.size = w.heap.size + 2 := by rw [← hW2, heap_alloc_size, z1]
  rw [hW2, z1]
  apply wpList_nil
  refine hK0 _ _ ?_
  clear hK0 K0
  apply wp_seq_k; intro K1 hK1
  apply wp_region_lit
  refine wpList_runTo rfl (some 5) rfl (.pointer (some ⟨W2.heap.size, 0, none⟩)) (W2.alloc (.cells (arr 80 (fun _ => 0#32)) 102)) (by as_aux_lemma => kernel_rfl) ?_
  apply wpList_nil
  refine hK1 _ _ ?_
  clear hK1 K1
  obtain ⟨w1, hw1, I1⟩ : ∃ w1, W2.alloc (.cells (arr 80 (fun _ => 0#32)) 102) = w1 ∧ In1 w b h g o 0 w1 := by
    have b1 : Below w.heap.size w W1 := hW1 ▸ ((But.refl [] w).alloc _).toBelow
    have b2 : But [] W1 W2 := hW2 ▸ (But.refl [] W1).alloc _
    have b3 : But [] W2 (W2.alloc (.cells (arr 80 (fun _ => 0#32)) 102)) := (But.refl [] W2).alloc _
    have r1 : Row W1 w.heap.size 5 60 h.f := hW1 ▸ heap_alloc_new w _
    have r2 : Row W2 (w.heap.size + 1) 5 60 (fun _ => 0#32) := by rw [← z1, ← hW2]; exact heap_alloc_new W1 _
    refine ⟨_, rfl, (b1.trans (b2.toBelow.mono (by omega))).trans (b3.toBelow.mono (by omega)), ?_, (r1.old b2 (by simp)).old b3 (by simp), r2.old b3 (by simp), ?_, fun i hi => ?_⟩
    · rw [heap_alloc_size, z2]
    · rw [← z2]
      exact Row.congr (f := fun _ => 0#32) (heap_alloc_new W2 _) (fun i _ => by simp [Wt])
    · rw [b3.cell (by show g < _; omega) (by simp), b2.cell (by show g < _; omega) (by simp), b1.cell (p := ⟨g, o + i, none⟩) hg]; exact hb i hi
  rw [hw1, z2]
  have HB := Lib.hid hb
  clear hw1 hW1 hW2 z1 z2 W1 W2 hb
  go_wp2
  go_loopw [14] (fun i wr => ∃ t : Nat, t ≤ 80 ∧ i = .int .i64 t ∧ Hid (In1 w b h g o t wr)) (fun i _ => 80 - (intOf i).toNat)
  case atStart => exact ⟨0, by omega, rfl, Lib.hid I1⟩
  case round =>
    obtain ⟨t, ht, rfl, J⟩ := hrel
    clear I1
    by_cases hlt : t < 80
    · by_cases hs : t < 16
      · have q0 := J.out.hb (4 * t) (by omega)
        have q1 := J.out.hb (4 * t + 1) (by omega)
        have q2 := J.out.hb (4 * t + 2) (by omega)
        have q3 := J.out.hb (4 * t + 3) (by omega)
        have i0 : (4 * (t : Int)).toNat = 4 * t := by omega
        have i1 : (4 * (t : Int) + 1).toNat = 4 * t + 1 := by omega
        have i2 : (4 * (t : Int) + 2).toNat = 4 * t + 2 := by omega
        have i3 : (4 * (t : Int) + 3).toNat = 4 * t + 3 := by omega
        have l0 := iv_lo (b (4 * t)); have m0 := h8 (4 * t)
        have l1 := iv_lo (b (4 * t + 1)); have m1 := h8 (4 * t + 1)
        have l2 := iv_lo (b (4 * t + 2)); have m2 := h8 (4 * t + 2)
        have l3 := iv_lo (b (4 * t + 3)); have m3 := h8 (4 * t + 3)
        have c := J.out.wt.cell hlt
        have f := J.out.wt.frozen t
        have HE := Lib.hid ((word_iv (b (4 * t)) (b (4 * t + 1)) (b (4 * t + 2)) (b (4 * t + 3)) m0 m1 m2).trans (show _ = iv (W b t) by rw [W_lo b t hs]; rfl))
        generalize iv (b (4 * t)) = x0 at *
        generalize iv (b (4 * t + 1)) = x1 at *
        generalize iv (b (4 * t + 2)) = x2 at *
        generalize iv (b (4 * t + 3)) = x3 at *
        go_wp2
        go_region
        go_wp2
        go_roundw
        case rel =>
          refine ⟨t + 1, by omega, by go_num, ?_⟩
          rw [HE.out]
          exact Lib.hid (J.out.step hg).drew
        case measure => simp [intOf]; omega
      · have c3 : wr.cell? ⟨w.heap.size + 2, t - 3, none⟩ = some (.int .u32 (iv (W b (t - 3)))) := by rw [J.out.wt.cell (by omega)]; unfold Wt; rw [if_pos (by omega)]
        have c8 : wr.cell? ⟨w.heap.size + 2, t - 8, none⟩ = some (.int .u32 (iv (W b (t - 8)))) := by rw [J.out.wt.cell (by omega)]; unfold Wt; rw [if_pos (by omega)]
        have c14 : wr.cell? ⟨w.heap.size + 2, t - 14, none⟩ = some (.int .u32 (iv (W b (t - 14)))) := by rw [J.out.wt.cell (by omega)]; unfold Wt; rw [if_pos (by omega)]
        have c16 : wr.cell? ⟨w.heap.size + 2, t - 16, none⟩ = some (.int .u32 (iv (W b (t - 16)))) := by rw [J.out.wt.cell (by omega)]; unfold Wt; rw [if_pos (by omega)]
        have i3 : ((t : Int) - 3).toNat = t - 3 := by omega
        have i8 : ((t : Int) - 8).toNat = t - 8 := by omega
        have i14 : ((t : Int) - 14).toNat = t - 14 := by omega
        have i16 : ((t : Int) - 16).toNat = t - 16 := by omega
        have c := J.out.wt.cell hlt
        have f := J.out.wt.frozen t
        have HE := Lib.hid (W_hi b t (by omega))
        generalize W b (t - 3) = x0 at *
        generalize W b (t - 8) = x1 at *
        generalize W b (t - 14) = x2 at *
        generalize W b (t - 16) = x3 at *
        have t0 : (16 : Int) ≤ t := by omega
        have t1 : (t : Int) < 80 := by omega
        have p3 : (0 : Int) ≤ (t : Int) - 3 := by omega
        have s3 : (3 : Int) ≤ (t : Int) := by omega
        have r3 : (t : Int) - 3 < 80 := by omega
        have v3 : IntKind.i64.wrap ((t : Int) - 3) = (t : Int) - 3 := by rw [IntKind.wrap_i64]; omega
        have p8 : (0 : Int) ≤ (t : Int) - 8 := by omega
        have s8 : (8 : Int) ≤ (t : Int) := by omega
        have r8 : (t : Int) - 8 < 80 := by omega
        have v8 : IntKind.i64.wrap ((t : Int) - 8) = (t : Int) - 8 := by rw [IntKind.wrap_i64]; omega
        have p14 : (0 : Int) ≤ (t : Int) - 14 := by omega
        have s14 : (14 : Int) ≤ (t : Int) := by omega
        have r14 : (t : Int) - 14 < 80 := by omega
        have v14 : IntKind.i64.wrap ((t : Int) - 14) = (t : Int) - 14 := by rw [IntKind.wrap_i64]; omega
        have p16 : (0 : Int) ≤ (t : Int) - 16 := by omega
        have r16 : (t : Int) - 16 < 80 := by omega
        have v16 : IntKind.i64.wrap ((t : Int) - 16) = (t : Int) - 16 := by rw [IntKind.wrap_i64]; omega
        have hx1 := iv_xor x0 x1
        have hx2 := iv_xor (x0 ^^^ x1) x2
        have hx3 := iv_xor (x0 ^^^ x1 ^^^ x2) x3
        go_wp2
        have hk := Lib.hid (show ∀ (W : World) (y : Value), W.heap = wr.heap → (fun wx : World => wx.cell? ⟨w.heap.size + 2, t - 3, none⟩ = some (.int .u32 (iv x0)) ∧ wx.cell? ⟨w.heap.size + 2, t - 8, none⟩ = some (.int .u32 (iv x1)) ∧ wx.cell? ⟨w.heap.size + 2, t - 14, none⟩ = some (.int .u32 (iv x2)) ∧ wx.cell? ⟨w.heap.size + 2, t - 16, none⟩ = some (.int .u32 (iv x3))) (W.setCell ⟨w.heap.size + 2, t, none⟩ y) from fun W y hW => by
          have e : ∀ p, W.cell? p = wr.cell? p := fun p => by unfold World.cell?; rw [hW]
          exact ⟨by rw [World.cell?_setCell_other _ _ _ _ (by simp), e]; exact c3, by rw [World.cell?_setCell_other _ _ _ _ (by simp), e]; exact c8, by rw [World.cell?_setCell_other _ _ _ _ (by simp), e]; exact c14, by rw [World.cell?_setCell_other _ _ _ _ (by simp), e]; exact c16⟩)
        go_region_held3 (fun wx => wx.cell? ⟨w.heap.size + 2, t - 3, none⟩ = some (.int .u32 (iv x0)) ∧ wx.cell? ⟨w.heap.size + 2, t - 8, none⟩ = some (.int .u32 (iv x1)) ∧ wx.cell? ⟨w.heap.size + 2, t - 14, none⟩ = some (.int .u32 (iv x2)) ∧ wx.cell? ⟨w.heap.size + 2, t - 16, none⟩ = some (.int .u32 (iv x3))) (first | exact ⟨c3, c8, c14, c16⟩ | exact hS0 | exact hk.out _ _ rfl) (first | (go_at_call 43; with_reducible refine (turned43_1 _ _).mono ?_; rintro e w' ⟨rfl, rfl⟩))
        go_wp2
        go_roundw
        case rel =>
          refine ⟨t + 1, by omega, by go_num, ?_⟩
          rw [← HE.out]
          exact Lib.hid (J.out.step hg).drew.drew
        case measure => simp [intOf]; omega
    · obtain rfl : t = 80 := by omega
      have hr := Lib.hid J.out.hr
      have sz := J.out.sz
      obtain ⟨A80, hA⟩ : ∃ A, arr 80 (W b) = A := ⟨_, rfl⟩
      have wt : Row wr (w.heap.size + 2) 80 102 (W b) := J.out.wt.congr (fun i hi => by unfold Wt; rw [if_pos hi])
      unfold Row at wt
      rw [hA] at wt
      have hsz : (Try.prog.info? 102).map (·.size) = some A80.size := by rw [← hA, arr_size]; kernel_rfl
      have WT := Lib.hid wt
      have HSZ := Lib.hid hsz
      have HA := Lib.hid hA
      clear wt hsz hA
      have w80 := Lib.hid ((Go.heap_alloc_old wr (.cells #[.int .u32 (iv h.a), .int .u32 (iv h.b), .int .u32 (iv h.c), .int .u32 (iv h.d), .int .u32 (iv h.e)] 60) (r := w.heap.size + 2) (by rw [J.out.sz]; omega)).trans WT.out)
      go_wp2_with (first | refine wpList_load_row rfl 60 (.tmp 2) rfl w.heap.size rfl 60 #[.int .u32 (iv h.a), .int .u32 (iv h.b), .int .u32 (iv h.c), .int .u32 (iv h.d), .int .u32 (iv h.e)] (0, 0) _ hr.out Try.underlying60 rfl (by kernel_rfl) ?_ | refine wpList_load_row rfl 102 (.tmp 5) rfl (w.heap.size + 2) rfl 102 A80 (0, 0) _ w80.out Try.underlying102 rfl HSZ.out ?_)
      obtain ⟨w2, hw2, I2⟩ : ∃ w2, wr.alloc (.cells #[.int .u32 (iv h.a), .int .u32 (iv h.b), .int .u32 (iv h.c), .int .u32 (iv h.d), .int .u32 (iv h.e)] 60) = w2 ∧ Hid (In2 w b h 0 w2) := by
        have bb := (But.refl [] wr).alloc (.cells #[.int .u32 (iv h.a), .int .u32 (iv h.b), .int .u32 (iv h.c), .int .u32 (iv h.d), .int .u32 (iv h.e)] 60)
        have I := J.out
        refine ⟨_, rfl, Lib.hid ⟨I.bel.trans (bb.toBelow.mono I.bel.size), by rw [heap_alloc_size, I.sz], I.hr.old bb (by simp), I.rr.old bb (by simp), ?_⟩⟩
        rw [← I.sz]
        exact Go.heap_alloc_new wr _
      rw [hw2]
      clear hw2 w80 WT HSZ hr sz J
      go_loopw [79] (fun i wr => ∃ t : Nat, t ≤ 80 ∧ i = .int .i64 t ∧ Hid (In2 w b h t wr)) (fun i _ => 80 - (intOf i).toNat)
      case atStart => exact ⟨0, by omega, rfl, I2⟩
      case round =>
        clear I2
        obtain ⟨t, ht2, rfl, J⟩ := hrel
        by_cases hl2 : t < 80
        · obtain ⟨v, hv⟩ : ∃ v, rounds h b t = v := ⟨_, rfl⟩
          have vr := J.out.vr
          rw [hv] at vr
          have HV := Lib.hid hv
          clear hv
          have c0 : wr.cell? ⟨w.heap.size + 3, 0, none⟩ = some (.int .u32 (iv v.a)) := vr.cell (j := 0) (by omega)
          have c1 : wr.cell? ⟨w.heap.size + 3, 1, none⟩ = some (.int .u32 (iv v.b)) := vr.cell (j := 1) (by omega)
          have c2 : wr.cell? ⟨w.heap.size + 3, 2, none⟩ = some (.int .u32 (iv v.c)) := vr.cell (j := 2) (by omega)
          have c3 : wr.cell? ⟨w.heap.size + 3, 3, none⟩ = some (.int .u32 (iv v.d)) := vr.cell (j := 3) (by omega)
          have c4 : wr.cell? ⟨w.heap.size + 3, 4, none⟩ = some (.int .u32 (iv v.e)) := vr.cell (j := 4) (by omega)
          clear vr
          have hix : ∀ W0, (Instr.index 102 (.agg A80) (.int .i64 (t : Int))).run Try.prog W0 = .ok (.int .u32 (iv (W b t))) W0 := fun W0 => by rw [← HA.out]; exact index_arr _ t hl2 W0
          have HS := Lib.hid (show step v (mixF t v.b v.c v.d) (mixK t) (W b t) = rounds h b (t + 1) by rw [← HV.out]; rfl)
          generalize W b t = x at *
          obtain ⟨F, hF⟩ : ∃ F, mixF t v.b v.c v.d = F := ⟨_, rfl⟩
          obtain ⟨k, hK⟩ : ∃ k, mixK t = k := ⟨_, rfl⟩
          have M := mixed44 t hl2 v.b v.c v.d
          rw [hF, hK] at M HS
          have HM := Lib.hid M
          clear hF hK M
          have a1 := iv_add (rot v.a 5) F
          have a2 := iv_add (rot v.a 5 + F) v.e
          have a3 := iv_add (rot v.a 5 + F + v.e) k
          have a4 := iv_add (rot v.a 5 + F + v.e + k) x
          have b1 := iv_addw (rot v.a 5) F
          have b2 := iv_addw (rot v.a 5 + F) v.e
          have b3 := iv_addw (rot v.a 5 + F + v.e) k
          have b4 := iv_addw (rot v.a 5 + F + v.e + k) x
          go_wp2_with (go_at_call 44; refine (HM.out _).mono ?_; rintro e w' ⟨rfl, rfl⟩)
          go_quiet (refine Calls.quiet_of (turned43q_5 _ _))
          go_wp2
          obtain ⟨wz, hz⟩ : ∃ wz, wr.drewN nq = wz := ⟨_, rfl⟩
          have Jz : In2 w b h t wz := hz ▸ J.out.drewN nq
          rw [hz]
          clear hz c0 c1 c2 c3 c4 J hix HM
          have vr := Jz.vr
          rw [HV.out] at vr
          have J := Lib.hid Jz
          clear Jz
          have c0 : wz.cell? ⟨w.heap.size + 3, 0, none⟩ = some (.int .u32 (iv v.a)) := vr.cell (j := 0) (by omega)
          have c1 : wz.cell? ⟨w.heap.size + 3, 1, none⟩ = some (.int .u32 (iv v.b)) := vr.cell (j := 1) (by omega)
          have c2 : wz.cell? ⟨w.heap.size + 3, 2, none⟩ = some (.int .u32 (iv v.c)) := vr.cell (j := 2) (by omega)
          have c3 : wz.cell? ⟨w.heap.size + 3, 3, none⟩ = some (.int .u32 (iv v.d)) := vr.cell (j := 3) (by omega)
          have c4 : wz.cell? ⟨w.heap.size + 3, 4, none⟩ = some (.int .u32 (iv v.e)) := vr.cell (j := 4) (by omega)
          have f0 := vr.frozen 0
          have f1 := vr.frozen 1
          have f2 := vr.frozen 2
          have f3 := vr.frozen 3
          have f4 := vr.frozen 4
          clear vr
          refine region_quiet_tail 11 (by kernel_rfl) (by kernel_rfl) ?_
          simp only [List.take_succ_cons, List.take_zero, List.drop_succ_cons, List.drop_zero]
          repeat (go_big_quiet_step (refine Calls.quiet_of (turned43q_30 _ _)))
          refine wpQuiet_nil ?_
          intro nr
          go_wp2
          go_roundw
          case rel =>
            refine ⟨t + 1, by omega, by go_num, ?_⟩
            have R := (J.out.drewN nr).step (step v F k x) HS.out
            simp only [step] at R
            exact Lib.hid R
          case measure => simp [intOf]; omega
        · obtain rfl : t = 80 := by omega
          have vr := J.out.vr
          obtain ⟨v, hv⟩ : ∃ v, rounds h b 80 = v := ⟨_, rfl⟩
          rw [hv] at vr
          have HV := Lib.hid hv
          clear hv
          go_wp2
          have I3 : Hid (In3 w h v 0 wr) := Lib.hid ⟨J.out.bel, J.out.sz, J.out.hr.congr (fun i _ => by simp [addTo]), J.out.rr, vr⟩
          clear J vr
          go_loopw [118] (fun i wr => ∃ t : Nat, t ≤ 5 ∧ i = .int .i64 t ∧ Hid (In3 w h v t wr)) (fun i _ => 5 - (intOf i).toNat)
          case atStart => exact ⟨0, by omega, rfl, I3⟩
          case round =>
            clear I3
            obtain ⟨t, ht3, rfl, J⟩ := hrel
            by_cases hl3 : t < 5
            · have c0 : wr.cell? ⟨w.heap.size, t, none⟩ = some (.int .u32 (iv (h.f t))) := by rw [J.out.hr.cell hl3]; simp [addTo]
              have c1 : wr.cell? ⟨w.heap.size + 3, t, none⟩ = some (.int .u32 (iv (v.f t))) := J.out.vr.cell hl3
              have f0 := J.out.hr.frozen t
              have HS := Lib.hid J.out.step.drew
              have a1 := iv_add (h.f t) (v.f t)
              have b1 := iv_addw (h.f t) (v.f t)
              generalize h.f t = x at *
              generalize v.f t = y at *
              go_wp2
              go_region
              go_wp2
              go_roundw
              case rel => exact ⟨t + 1, by omega, by go_num, HS⟩
              case measure => simp [intOf]; omega
            · obtain rfl : t = 5 := by omega
              have hr : Row wr w.heap.size 5 60 (block h b).f := J.out.hr.congr (fun i hi => by
                unfold block
                rw [HV.out]
                obtain rfl | rfl | rfl | rfl | rfl : i = 0 ∨ i = 1 ∨ i = 2 ∨ i = 3 ∨ i = 4 := by omega
                all_goals rfl)
              have bel := Lib.hid J.out.bel
              have rr := J.out.rr
              obtain ⟨q, hq⟩ : ∃ q, block h b = q := ⟨_, rfl⟩
              rw [hq] at hr
              have HQ := Lib.hid hq
              clear hq
              have HR := Lib.hid hr
              have c0 := rr.cell (j := 0) (by omega)
              have c1 := rr.cell (j := 1) (by omega)
              have c2 := rr.cell (j := 2) (by omega)
              have c3 := rr.cell (j := 3) (by omega)
              have c4 := rr.cell (j := 4) (by omega)
              have f0 := rr.frozen 0
              have f1 := rr.frozen 1
              have f2 := rr.frozen 2
              have f3 := rr.frozen 3
              have f4 := rr.frozen 4
              have RR := Lib.hid (rr.set5 q)
              clear hr J rr
              go_wp2_with (first | refine wpList_load_row rfl 60 (.tmp 2) rfl w.heap.size rfl 60 #[.int .u32 (iv q.a), .int .u32 (iv q.b), .int .u32 (iv q.c), .int .u32 (iv q.d), .int .u32 (iv q.e)] (0, 0) _ HR.out Try.underlying60 rfl (by kernel_rfl) ?_)
              refine ⟨rfl, _, results_cell_row (p := 4) (ty := 60) rfl _ _ (w.heap.size + 1) 60 (arr 5 q.f) (0, 0) _ rfl RR.out Try.underlying60 rfl (by kernel_rfl), by rw [HQ.out], ?_⟩
              exact bel.out.trans ((but5 wr (w.heap.size + 1) _ _ _ _ _).below _ bel.out.size (by simp))
end Go.Proofs.Ytdlimgghcpbkcaa.sha
