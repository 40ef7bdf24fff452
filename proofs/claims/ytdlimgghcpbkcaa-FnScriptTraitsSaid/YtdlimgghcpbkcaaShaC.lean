/-
  Proved: the contract of (*sha1.digest).checkSum.
  Conditions: the digest has taken up a text of at most 100000 bytes.
-/
import Derived.Test.YtdlimgghcpbkcaaShaE
namespace Go.Proofs.Ytdlimgghcpbkcaa.sha
open Go.RowKit Mem Go.Great
set_option linter.unusedVariables false

theorem tail_eq (n : Nat) : tail n = (splice (0x80 :: List.replicate 71 0) (tailZ n + 1) (be64 (8 * n))).take (tailZ n + 9) := by
  have hz : tailZ n ≤ 63 := by unfold tailZ; split <;> omega
  have e : List.take (tailZ n) (List.replicate 71 (0 : UInt8)) = List.replicate (tailZ n) 0 := by rw [List.take_replicate, Nat.min_eq_left (by omega)]
  unfold splice tail
  rw [List.take_succ_cons, e, be64_length]
  rw [List.cons_append, List.take_succ_cons]
  congr 1
  rw [← List.append_assoc, List.take_append_of_le_length (by rw [List.length_append, List.length_replicate, be64_length]; omega)]
  rw [List.take_of_length_le (by rw [List.length_append, List.length_replicate, be64_length]; omega)]
theorem zeros20 : Lib.byteCells (List.replicate 20 0) = List.replicate 20 (Value.int .u8 0) := by rfl

set_option maxRecDepth 100000 in
set_option maxHeartbeats 8000000 in
theorem check59 (X : Nat) (l : List UInt8) (x : List UInt8) (w : World) (hT : Took w X l l.length x) (hmax : l.length ≤ 100000) :
    Calls Try.prog 59 #[.pointer (some ⟨X, 0, none⟩)] w fun e w' => e = .returned (.agg (Lib.byteCells (sum l)).toArray) ∧ But [X] w w' := by
  have hX := hT.dig.lt
  have HT := Lib.hid hT
  clear hT
  obtain ⟨n, hn⟩ : ∃ n, l.length = n := ⟨_, rfl⟩
  rw [hn] at hmax
  have HN := Lib.hid hn
  clear hn
  go_enter Try.func59, Try.ntmps59
  apply wp_seq_k; intro K0 hK0
  apply wp_region_lit
  refine wpList_runTo rfl (some 2) rfl (.pointer (some ⟨w.heap.size, 0, none⟩)) (w.alloc (.cells (Lib.byteCells (List.replicate 20 0)).toArray 134)) (by as_aux_lemma => kernel_rfl) ?_
  apply wpList_nil
  refine hK0 _ _ ?_
  clear hK0 K0
  obtain ⟨w1, hw1, B1, R1, z1⟩ : ∃ w1, w.alloc (.cells (Lib.byteCells (List.replicate 20 0)).toArray 134) = w1 ∧ Hid (But [] w w1) ∧ Hid (BRow w1 w.heap.size 134 (List.replicate 20 0)) ∧ w1.heap.size = w.heap.size + 1 :=
    ⟨_, rfl, Lib.hid ((But.refl [] w).alloc _), Lib.hid (Go.heap_alloc_new w _), heap_alloc_size _ _⟩
  rw [hw1]
  clear hw1
  have T1 : Hid (Took w1 X l n x) := Lib.hid ⟨by rw [← HN.out]; exact HT.out.dig.old B1.out (by simp), HT.out.buf⟩
  have c70 := T1.out.dig.clen
  go_upto_region 2 with (fail)
  apply wp_region_lit
  refine wpList_runTo rfl (some 4) rfl (.pointer (some ⟨w1.heap.size, 0, none⟩)) (w1.alloc (.cells (Lib.byteCells (List.replicate 72 0)).toArray 150)) (by as_aux_lemma => kernel_rfl) ?_
  apply wpList_nil
  obtain ⟨w2, hw2, B2, R2, z2⟩ : ∃ w2, w1.alloc (.cells (Lib.byteCells (List.replicate 72 0)).toArray 150) = w2 ∧ Hid (But [] w1 w2) ∧ Hid (BRow w2 (w.heap.size + 1) 150 (List.replicate 72 0)) ∧ w2.heap.size = w.heap.size + 2 :=
    ⟨_, rfl, Lib.hid ((But.refl [] w1).alloc _), Lib.hid (by rw [← z1]; exact Go.heap_alloc_new w1 _), by rw [heap_alloc_size, z1]⟩
  rw [hw2, z1]
  clear hw2 c70
  have e0 : w2.cell? ⟨w.heap.size + 1, 0, none⟩ = some (.int .u8 0) := R2.out.cell (j := 0) (by simp)
  have f0 := R2.out.fz 0
  go_upto_if 15 with (fail)
  obtain ⟨w3, hw3, B3, R3, z3⟩ : ∃ w3, w2.setCell ⟨w.heap.size + 1, 0, none⟩ (.int .u8 128) = w3 ∧ Hid (But [w.heap.size + 1] w2 w3) ∧ Hid (BRow w3 (w.heap.size + 1) 150 (0x80 :: List.replicate 71 0)) ∧ w3.heap.size = w.heap.size + 2 :=
    ⟨_, rfl, Lib.hid ((But.refl _ _).setCell (Or.inl (by simp)) _), Lib.hid (by have := row_setCell R2.out 0 (.int .u8 128); exact this), by rw [← z2]; simp [World.setCell]⟩
  rw [hw3]
  clear hw3 e0 f0
  have hX2 : X ≠ w.heap.size + 1 := by omega
  have T3 : Hid (Took w3 X l n x) := Lib.hid ⟨(T1.out.dig.old B2.out (by simp)).old B3.out (by simpa using hX2), T1.out.buf⟩
  have C3 : Hid (But [] w w3) := Lib.hid ((B1.out.trans B2.out).join B3.out (by simp) (by simp))
  have Q3 : Hid (BRow w3 w.heap.size 134 (List.replicate 20 0)) := Lib.hid ((R1.out.old B2.out (by simp)).old B3.out (by simp))
  obtain ⟨T, hTz⟩ : ∃ T, tailZ n + 1 = T := ⟨_, rfl⟩
  have HTz := Lib.hid hTz
  have hT64 : T ≤ 64 := by rw [← hTz]; unfold tailZ; split <;> omega
  have hT1 : 1 ≤ T := by omega
  clear hTz B1 R1 B2 R2 B3 T1 z1 z2
  go_cut [5] (fun v wx => v = .int .u64 (T : Int) ∧ wx = w3)
  case first =>
    have hz := HTz.out
    unfold tailZ at hz
    by_cases h56 : n % 64 < 56
    · rw [if_pos h56] at hz
      go_wp2
      go_meet
      case rel =>
        refine ⟨?_, rfl⟩
        congr 1
        omega
    · rw [if_neg h56] at hz
      go_wp2
      go_meet
      case rel =>
        refine ⟨?_, rfl⟩
        congr 1
        omega
  case rest =>
    obtain ⟨rfl, hwc⟩ := hcut
    subst hwc
    obtain ⟨N8, hN8⟩ : ∃ N8, 8 * n = N8 := ⟨_, rfl⟩
    have i8 : (n : Int) * 8 = (N8 : Int) := by omega
    have hT72 : ¬ 72 = T := by omega
    have t0 : (0 : Int) ≤ (T : Int) := by omega
    have t1 : (0 : Int) ≤ (T : Int) + 8 := by omega
    have t2 : (T : Int) + 8 ≤ 72 := by omega
    have t3 : (T : Int) ≤ 64 := by omega
    have t4 : ((T : Int) + 8).toNat = T + 8 := by omega
    have HP := Lib.hid (put65 N8 (by omega) (w.heap.size + 1) T 8 (72 - T) 150 (0x80 :: List.replicate 71 0) wc R3.out (by omega) (by omega) (by simp; omega))
    have HN8 := Lib.hid hN8
    clear hN8
    have htl : (tail n).length = T + 8 := by rw [tail_length, ← HTz.out]; omega
    have hlt : ∀ W, Took W X l n x → Src W X (w.heap.size + 1) 0 (tail n) → Calls Try.prog 41 #[.pointer (some ⟨X, 0, none⟩), .slice (some ⟨w.heap.size + 1, 0, none⟩) (T + 8) 72] W fun e w' => e = .returned (.tuple #[.int .i64 ((T + 8 : Nat) : Int), .nilIface]) ∧ ∃ x', Dig w' X (hs (l ++ tail n)) x' 0 (n + T + 8) ∧ But [X] W w' := by
      intro W hT hS
      have h := write41 l (tail n) X (w.heap.size + 1) 0 72 x W (by rw [HN.out]; exact hT) hS (by rw [htl]; omega) (by rw [htl, HN.out]; omega)
      rw [htl] at h
      refine h.mono ?_
      rintro e w' ⟨he, x', hT', hB⟩
      refine ⟨he, x', ?_, hB⟩
      have hd := hT'.dig
      have hm : (l ++ tail n).length % 64 = 0 := by rw [List.length_append, HN.out]; exact tail_whole n
      rw [hm, List.length_append, HN.out, htl] at hd
      exact hd
    have hsr : ∀ W, BRow W (w.heap.size + 1) 150 (splice (0x80 :: List.replicate 71 0) T (be64 N8)) → Src W X (w.heap.size + 1) 0 (tail n) := by
      intro W hR _
      refine ⟨fun e => by omega, hR.lt, fun j hj => ?_⟩
      rw [htl] at hj
      have hlen : (splice (0x80 :: List.replicate 71 (0 : UInt8)) T (be64 N8)).length = 72 := length_splice _ _ _ (by simp [be64_length]; omega)
      rw [Nat.zero_add, hR.cell (by rw [hlen]; omega), tail_eq n, HTz.out, show tailZ n + 9 = T + 8 by rw [← HTz.out], HN8.out, getD_take hj]
    have HW := Lib.hid hlt
    have HSR := Lib.hid hsr
    clear hlt hsr htl
    go_upto_region 14 with (first
      | (go_at_call 65; refine HP.out.mono ?_; rintro e w4 ⟨rfl, hb4, hr4⟩; (have T4 : Took w4 X l n x := ⟨T3.out.dig.old hb4 (by simpa using hX2), T3.out.buf⟩); (have HW4 := Lib.hid (HW.out w4 T4 (HSR.out w4 hr4))); (have B4 : Hid (But [] w w4) := Lib.hid (C3.out.join hb4 (by simp) (by simp))); (have Q4 : Hid (BRow w4 w.heap.size 134 (List.replicate 20 0)) := Lib.hid (Q3.out.old hb4 (by simp))); (have hN4 : Hid (w.heap.size + 1 < w4.heap.size) := Lib.hid hr4.lt); clear hb4 hr4 T4)
      | (go_at_call 41; refine HW4.out.mono ?_; rintro e w5 ⟨rfl, x5, hd5, hb5⟩; (have D5 := Lib.hid hd5); have c69 := hd5.cnx; (have B5 : Hid (But [X] w w5) := Lib.hid (B4.out.join hb5 (by simp) (by simp))); (have hB65 : Hid (But [X] w4 w5 ∧ w.heap.size + 1 < w4.heap.size) := Lib.hid ⟨hb5, hN4.out⟩); (have Q5 : Hid (BRow w5 w.heap.size 134 (List.replicate 20 0)) := Lib.hid (Q4.out.old hb5 (by simp; omega))); clear hd5 hb5))
    apply wp_region_lit
    refine wpList_runTo rfl (some 7) rfl (.pointer (some ⟨w5.heap.size, 0, none⟩)) (w5.alloc (.cells (Lib.byteCells (List.replicate 20 0)).toArray 134)) (by as_aux_lemma => kernel_rfl) ?_
    apply wpList_nil
    obtain ⟨N, hN⟩ : ∃ N, w5.heap.size = N := ⟨_, rfl⟩
    have hNw : w.heap.size + 1 < N := by rw [← hN]; have h6 := hB65.out.1.size; have h7 := hB65.out.2; omega
    have hXN : X ≠ N := by omega
    obtain ⟨V0, hV0, A0, R0⟩ : ∃ V0, w5.alloc (.cells (Lib.byteCells (List.replicate 20 0)).toArray 134) = V0 ∧ Hid (But [] w5 V0) ∧ Hid (BRow V0 N 134 (List.replicate 20 0)) :=
      ⟨_, rfl, Lib.hid ((But.refl [] w5).alloc _), Lib.hid (hN ▸ Go.heap_alloc_new w5 _)⟩
    rw [hV0, hN]
    obtain ⟨s, hs⟩ : ∃ s, hs (l ++ tail n) = s := ⟨_, rfl⟩
    rw [hs] at D5
    have G0 : Hid (Dig V0 X s x5 0 (n + T + 8)) := Lib.hid (D5.out.old A0.out (by simp))
    have Q0 : Hid (BRow V0 w.heap.size 134 (List.replicate 20 0)) := Lib.hid (Q5.out.old A0.out (by simp))
    have B0 : Hid (But [X] w V0) := Lib.hid (B5.out.join A0.out (by simp) (by simp))
    have HS := Lib.hid hs
    clear hs hB65 hN4 D5 Q5 B5 A0 hV0 c69 HP HW HSR HW4 B4 Q4 T3 R3 Q3 C3 HN8 HTz i8 t0 t1 t2 t3 t4 hT72 hT64 hT1 z3 hN
    have cw0 : V0.cell? ⟨X, 0, none⟩ = some (.int .u32 (iv s.a)) := G0.out.word 0 (by omega)
    go_wp2
    refine region_tail 6 (by kernel_rfl) ?_
    simp only [List.take_succ_cons, List.take_zero, List.drop_succ_cons, List.drop_zero]
    repeat still_step
    refine wpStill_nil ?_
    go_wp2_with (go_at_call 66; refine (put66 s.a N 0 20 20 134 (List.replicate 20 0) V0.drew R0.out (by omega) (by omega) (show 0 + 4 ≤ 20 by omega)).mono ?_; rintro e V1 ⟨rfl, hb, hr⟩; (have R1 := Lib.hid hr); (have G1 : Hid (Dig V1 X s x5 0 (n + T + 8)) := Lib.hid (G0.out.drew.old hb (by simpa using hXN))); (have Q1 : Hid (BRow V1 w.heap.size 134 (List.replicate 20 0)) := Lib.hid (BRow.old (w := V0.drew) Q0.out hb (by simp; omega))); (have B1 : Hid (But [X] w V1) := Lib.hid (B0.out.drew.join hb (by simp) (by simp; omega))); clear hb hr cw0 R0 G0 Q0 B0)
    have cw1 : V1.cell? ⟨X, 1, none⟩ = some (.int .u32 (iv s.b)) := G1.out.word 1 (by omega)
    go_wp2
    refine region_tail 6 (by kernel_rfl) ?_
    simp only [List.take_succ_cons, List.take_zero, List.drop_succ_cons, List.drop_zero]
    repeat still_step
    refine wpStill_nil ?_
    go_wp2_with (go_at_call 66; refine (put66 s.b N 4 16 16 134 (splice (List.replicate 20 0) 0 (be32 s.a)) V1.drew R1.out (by omega) (by omega) (show 4 + 4 ≤ 20 by omega)).mono ?_; rintro e V2 ⟨rfl, hb, hr⟩; (have R2 := Lib.hid hr); (have G2 : Hid (Dig V2 X s x5 0 (n + T + 8)) := Lib.hid (G1.out.drew.old hb (by simpa using hXN))); (have Q2 : Hid (BRow V2 w.heap.size 134 (List.replicate 20 0)) := Lib.hid (BRow.old (w := V1.drew) Q1.out hb (by simp; omega))); (have B2 : Hid (But [X] w V2) := Lib.hid (B1.out.drew.join hb (by simp) (by simp; omega))); clear hb hr cw1 R1 G1 Q1 B1)
    have cw2 : V2.cell? ⟨X, 2, none⟩ = some (.int .u32 (iv s.c)) := G2.out.word 2 (by omega)
    go_wp2
    refine region_tail 6 (by kernel_rfl) ?_
    simp only [List.take_succ_cons, List.take_zero, List.drop_succ_cons, List.drop_zero]
    repeat still_step
    refine wpStill_nil ?_
    go_wp2_with (go_at_call 66; refine (put66 s.c N 8 12 12 134 (splice (splice (List.replicate 20 0) 0 (be32 s.a)) 4 (be32 s.b)) V2.drew R2.out (by omega) (by omega) (show 8 + 4 ≤ 20 by omega)).mono ?_; rintro e V3 ⟨rfl, hb, hr⟩; (have R3 := Lib.hid hr); (have G3 : Hid (Dig V3 X s x5 0 (n + T + 8)) := Lib.hid (G2.out.drew.old hb (by simpa using hXN))); (have Q3 : Hid (BRow V3 w.heap.size 134 (List.replicate 20 0)) := Lib.hid (BRow.old (w := V2.drew) Q2.out hb (by simp; omega))); (have B3 : Hid (But [X] w V3) := Lib.hid (B2.out.drew.join hb (by simp) (by simp; omega))); clear hb hr cw2 R2 G2 Q2 B2)
    have cw3 : V3.cell? ⟨X, 3, none⟩ = some (.int .u32 (iv s.d)) := G3.out.word 3 (by omega)
    go_wp2
    refine region_tail 6 (by kernel_rfl) ?_
    simp only [List.take_succ_cons, List.take_zero, List.drop_succ_cons, List.drop_zero]
    repeat still_step
    refine wpStill_nil ?_
    go_wp2_with (go_at_call 66; refine (put66 s.d N 12 8 8 134 (splice (splice (splice (List.replicate 20 0) 0 (be32 s.a)) 4 (be32 s.b)) 8 (be32 s.c)) V3.drew R3.out (by omega) (by omega) (show 12 + 4 ≤ 20 by omega)).mono ?_; rintro e V4 ⟨rfl, hb, hr⟩; (have R4 := Lib.hid hr); (have G4 : Hid (Dig V4 X s x5 0 (n + T + 8)) := Lib.hid (G3.out.drew.old hb (by simpa using hXN))); (have Q4 : Hid (BRow V4 w.heap.size 134 (List.replicate 20 0)) := Lib.hid (BRow.old (w := V3.drew) Q3.out hb (by simp; omega))); (have B4 : Hid (But [X] w V4) := Lib.hid (B3.out.drew.join hb (by simp) (by simp; omega))); clear hb hr cw3 R3 G3 Q3 B3)
    have cw4 : V4.cell? ⟨X, 4, none⟩ = some (.int .u32 (iv s.e)) := G4.out.word 4 (by omega)
    go_wp2
    refine region_tail 6 (by kernel_rfl) ?_
    simp only [List.take_succ_cons, List.take_zero, List.drop_succ_cons, List.drop_zero]
    repeat still_step
    refine wpStill_nil ?_
    have hfin : ∀ W, BRow W N 134 (splice (splice (splice (splice (splice (List.replicate 20 0) 0 (be32 s.a)) 4 (be32 s.b)) 8 (be32 s.c)) 12 (be32 s.d)) 16 (be32 s.e)) → ∃ CS, (Lib.byteCells (sum l)).toArray = CS ∧ W.heap[N]? = some (.cells CS 134 (0, 0)) ∧ CS.size = 20 ∧ CS.all (·.oneCell') = true := by
      intro W h
      have e : sum l = splice (splice (splice (splice (splice (List.replicate 20 0) 0 (be32 s.a)) 4 (be32 s.b)) 8 (be32 s.c)) 12 (be32 s.d)) 16 (be32 s.e) := by
        unfold sum
        rw [HN.out, HS.out]
        rfl
      refine ⟨_, rfl, by rw [e]; exact h, by rw [e, List.size_toArray, Lib.byteCells_length]; rfl, ?_⟩
      rw [Array.all_eq_true_iff_forall_mem]
      intro v hv
      exact Lib.byteCells_one _ v (by simpa using hv)
    go_wp2_with (first | (go_at_call 66; refine (put66 s.e N 16 4 4 134 (splice (splice (splice (splice (List.replicate 20 0) 0 (be32 s.a)) 4 (be32 s.b)) 8 (be32 s.c)) 12 (be32 s.d)) V4.drew R4.out (by omega) (by omega) (show 16 + 4 ≤ 20 by omega)).mono ?_; rintro e V5 ⟨rfl, hb, hr⟩; (have R5 := Lib.hid hr); (have G5 : Hid (Dig V5 X s x5 0 (n + T + 8)) := Lib.hid (G4.out.drew.old hb (by simpa using hXN))); (have Q5 : Hid (BRow V5 w.heap.size 134 (List.replicate 20 0)) := Lib.hid (BRow.old (w := V4.drew) Q4.out hb (by simp; omega))); (have B5 : Hid (But [X] w V5) := Lib.hid (B4.out.drew.join hb (by simp) (by simp; omega))); obtain ⟨CS, hCS, hrow, hsz, hall⟩ := hfin _ hr; (have R6 := Lib.hid hrow); (have HCS := Lib.hid hCS); (have HSZ := Lib.hid hsz); (have HALL := Lib.hid hall); clear hCS hrow hsz hall hb hr cw4 R4 G4 Q4 B4 hfin) | refine wpList_load_row rfl 134 (.tmp 7) rfl N rfl 134 CS (0, 0) _ R6.out Try.underlying134 rfl (by rw [HSZ.out]; kernel_rfl) ?_ | refine wpList_store_rowTo rfl 134 (.tmp 2) (.tmp 76) rfl rfl w.heap.size CS rfl rfl 134 (Lib.byteCells (List.replicate 20 0)).toArray Q5.out (by rw [HSZ.out]; kernel_rfl) (by rw [HSZ.out]; rfl) HALL.out ?_)
    refine ⟨rfl, _, results_cell_row (p := 2) (ty := 134) rfl _ _ w.heap.size 134 CS (0, 0) _ rfl (setRow_heap _ _ _ _ _ _ Q5.out) Try.underlying134 rfl (by rw [HSZ.out]; kernel_rfl), by rw [HCS.out], ?_⟩
    exact but_setRow B5.out (Or.inr (Nat.le_refl _)) _
end Go.Proofs.Ytdlimgghcpbkcaa.sha
