/-
  Proved: the contracts of union, intersect, invert, without of the decoder's sets.
  Conditions: each contract's own.
-/
import Derived.Test.YtlcbcgillekphaaDoorSet
import Derived.Deep.WholeRow
namespace Go.Proofs.YtlcbcgillekphaaDoor.set
open Go.RowKit Mem rw
set_option linter.unusedVariables false

theorem infoS : (Tryd.prog.info? 100).map (·.size) = some 256 := by kernel_rfl
theorem toArr_size (f : Nat → Bool) : (cellsOf f).toArray.size = 256 := by simp [cellsOf]
theorem one_cells (f : Nat → Bool) : (cellsOf f).toArray.all (·.oneCell') = true := by
  rw [Array.all_eq_true]
  intro i hi
  simp [cellsOf, Value.oneCell']
theorem setRow_new (w : World) (Z C : Array Value) (t : TypeId) : (w.alloc (.cells Z t)).setRow w.heap.size C = w.alloc (.cells C t) := by
  simp only [World.setRow, World.alloc]
  congr 1
  apply Array.ext_getElem?
  intro i
  rw [Array.getElem?_modify, Array.getElem?_push, Array.getElem?_push]
  by_cases h : w.heap.size = i
  · subst h; simp
  · rw [if_neg h, if_neg (fun e => h e.symm), if_neg (fun e => h e.symm)]

theorem upd_step (P f : Nat → Bool) (k : Nat) (r : Bool) (hr : r = P k) (j : Nat) : (if j = k then r else if j < k then P j else f j) = (if j < k + 1 then P j else f j) := by
  by_cases hj : j = k
  · subst hj
    rw [if_pos rfl, if_pos (by omega), hr]
  · rw [if_neg hj]
    by_cases hjk : j < k
    · rw [if_pos hjk, if_pos (by omega)]
    · rw [if_neg hjk, if_neg (by omega)]
theorem run_cells (w : World) (f : Nat → Bool) : (storeCells ⟨w.heap.size, 0, none⟩ (cellsOf f) 0).run Tryd.prog (w.alloc (.cells Tryd.zeroCells100 100)) = .ok () (w.alloc (.cells (cellsOf f).toArray 100)) := by
  have := run_storeCells_new (P := Tryd.prog) w 100 Tryd.zeroCells100 (cellsOf f).toArray (by rw [infoS, toArr_size]) (by rw [zeros, toArr_size, toArr_size]) (one_cells f)
  simpa using this

set_option maxRecDepth 100000 in
theorem union64 (B1 B2 : Nat) (f g : Nat → Bool) (w : World) (h1 : SetAt w B1 f) (h2 : SetAt w B2 g) :
    Calls Tryd.prog 64 #[.pointer (some ⟨B1, 0, none⟩), .pointer (some ⟨B2, 0, none⟩)] w fun e w' => e = .returned (.pointer (some ⟨w.heap.size, 0, none⟩)) ∧ SetAt w' w.heap.size (fun i => f i || g i) ∧ Below w.heap.size w w' := by
  have H1 := Lib.hid h1
  have hl1 := Rw.lt h1
  have H2 := Lib.hid h2
  have hl2 := Rw.lt h2
  clear h1 h2
  have hst : Hid (SetAt (w.alloc (.cells (cellsOf f).toArray 100)) w.heap.size f) := Lib.hid (Rw.new w _ _)
  obtain ⟨P, hP⟩ : ∃ P : Nat → Bool, (fun i => f i || g i) = P := ⟨_, rfl⟩
  have HP : Hid (∀ i, (f i || g i) = P i) := Lib.hid (fun i => by rw [← hP])
  rw [hP]
  clear hP
  go_enter Tryd.func64, Tryd.ntmps64
  have hlen := cellsOf_len f
  have hrc := run_cells w f
  go_wp2_with (refine wpList_load_row rfl 100 (.tmp 8) rfl B1 rfl 100 (cellsOf f).toArray (0, 0) _ H1.out Tryd.underlying100 rfl (by rw [infoS, toArr_size]) ?_)
  clear hlen hrc
  go_loopw [10] (fun i wr => ∃ k : Nat, k ≤ 256 ∧ i = .int .i64 k ∧ Hid (SetAt wr w.heap.size (fun j => if j < k then P j else f j) ∧ Below w.heap.size w wr)) (fun i _ => 256 - (intOf i).toNat)
  case atStart => exact ⟨0, Nat.zero_le _, rfl, Lib.hid ⟨hst.out.congr (fun j _ => by simp), (Below.refl _ w).alloc (Nat.le_refl _) _⟩⟩
  case round =>
    obtain ⟨k, hk, rfl, hI⟩ := hrel
    by_cases hk2 : k < 256
    · have c1 : wr.cell? ⟨w.heap.size, k, none⟩ = some (.bool (f k)) := by
        have := hI.out.1.get hk2
        simpa using this
      have c2 := (H2.out.below hI.out.2 hl2).get hk2
      have z := hI.out.1.fz k
      have hkl : (k : Int) < 256 := by omega
      have h2 := hI.out.1.put k (f k || g k)
      have b2 := hI.out.2.setCell (p := ⟨w.heap.size, k, none⟩) (Nat.le_refl _) (.bool (f k || g k))
      have hPk := HP.out k
      have HPK := Lib.hid hPk
      have HS2 := Lib.hid h2
      have B2' := Lib.hid b2
      clear h2 b2 hPk
      generalize f k = x at *
      generalize g k = y at *
      cases x <;> cases y
      all_goals
        go_wp2
        go_roundw
        case rel =>
          exact ⟨k + 1, by omega, by go_num, Lib.hid ⟨SetAt.congr HS2.out (fun j _ => upd_step P f k _ HPK.out j), B2'.out⟩⟩
        case measure => simp [intOf]; omega
    · have hkl : ¬ (k : Int) < 256 := by omega
      go_wp2
      go_ret
      exact ⟨rfl, hI.out.1.congr (fun j hj => by rw [if_pos (by omega)]), hI.out.2⟩

set_option maxRecDepth 100000 in
theorem inter72 (B1 B2 : Nat) (f g : Nat → Bool) (w : World) (h1 : SetAt w B1 f) (h2 : SetAt w B2 g) :
    Calls Tryd.prog 72 #[.pointer (some ⟨B1, 0, none⟩), .pointer (some ⟨B2, 0, none⟩)] w fun e w' => e = .returned (.pointer (some ⟨w.heap.size, 0, none⟩)) ∧ SetAt w' w.heap.size (fun i => f i && g i) ∧ Below w.heap.size w w' := by
  have H1 := Lib.hid h1
  have hl1 := Rw.lt h1
  have H2 := Lib.hid h2
  have hl2 := Rw.lt h2
  clear h1 h2
  have hst : Hid (SetAt (w.alloc (.cells (cellsOf f).toArray 100)) w.heap.size f) := Lib.hid (Rw.new w _ _)
  obtain ⟨P, hP⟩ : ∃ P : Nat → Bool, (fun i => f i && g i) = P := ⟨_, rfl⟩
  have HP : Hid (∀ i, (f i && g i) = P i) := Lib.hid (fun i => by rw [← hP])
  rw [hP]
  clear hP
  go_enter Tryd.func72, Tryd.ntmps72
  have hlen := cellsOf_len f
  have hrc := run_cells w f
  go_wp2_with (refine wpList_load_row rfl 100 (.tmp 8) rfl B1 rfl 100 (cellsOf f).toArray (0, 0) _ H1.out Tryd.underlying100 rfl (by rw [infoS, toArr_size]) ?_)
  clear hlen hrc
  go_loopw [10] (fun i wr => ∃ k : Nat, k ≤ 256 ∧ i = .int .i64 k ∧ Hid (SetAt wr w.heap.size (fun j => if j < k then P j else f j) ∧ Below w.heap.size w wr)) (fun i _ => 256 - (intOf i).toNat)
  case atStart => exact ⟨0, Nat.zero_le _, rfl, Lib.hid ⟨hst.out.congr (fun j _ => by simp), (Below.refl _ w).alloc (Nat.le_refl _) _⟩⟩
  case round =>
    obtain ⟨k, hk, rfl, hI⟩ := hrel
    by_cases hk2 : k < 256
    · have c1 : wr.cell? ⟨w.heap.size, k, none⟩ = some (.bool (f k)) := by
        have := hI.out.1.get hk2
        simpa using this
      have c2 := (H2.out.below hI.out.2 hl2).get hk2
      have z := hI.out.1.fz k
      have hkl : (k : Int) < 256 := by omega
      have h2 := hI.out.1.put k (f k && g k)
      have b2 := hI.out.2.setCell (p := ⟨w.heap.size, k, none⟩) (Nat.le_refl _) (.bool (f k && g k))
      have hPk := HP.out k
      have HPK := Lib.hid hPk
      have HS2 := Lib.hid h2
      have B2' := Lib.hid b2
      clear h2 b2 hPk
      generalize f k = x at *
      generalize g k = y at *
      cases x <;> cases y
      all_goals
        go_wp2
        go_roundw
        case rel =>
          exact ⟨k + 1, by omega, by go_num, Lib.hid ⟨SetAt.congr HS2.out (fun j _ => upd_step P f k _ HPK.out j), B2'.out⟩⟩
        case measure => simp [intOf]; omega
    · have hkl : ¬ (k : Int) < 256 := by omega
      go_wp2
      go_ret
      exact ⟨rfl, hI.out.1.congr (fun j hj => by rw [if_pos (by omega)]), hI.out.2⟩

set_option maxRecDepth 100000 in
theorem invert65 (B1 : Nat) (f : Nat → Bool) (w : World) (h1 : SetAt w B1 f) :
    Calls Tryd.prog 65 #[.pointer (some ⟨B1, 0, none⟩)] w fun e w' => e = .returned (.pointer (some ⟨w.heap.size, 0, none⟩)) ∧ SetAt w' w.heap.size (fun i => !f i) ∧ Below w.heap.size w w' := by
  have H1 := Lib.hid h1
  have hl1 := Rw.lt h1
  clear h1
  have hst : Hid (SetAt (w.alloc (.cells (cellsOf f).toArray 100)) w.heap.size f) := Lib.hid (Rw.new w _ _)
  obtain ⟨P, hP⟩ : ∃ P : Nat → Bool, (fun i => !f i) = P := ⟨_, rfl⟩
  have HP : Hid (∀ i, (!f i) = P i) := Lib.hid (fun i => by rw [← hP])
  rw [hP]
  clear hP
  go_enter Tryd.func65, Tryd.ntmps65
  have hlen := cellsOf_len f
  have hrc := run_cells w f
  go_wp2_with (refine wpList_load_row rfl 100 (.tmp 6) rfl B1 rfl 100 (cellsOf f).toArray (0, 0) _ H1.out Tryd.underlying100 rfl (by rw [infoS, toArr_size]) ?_)
  clear hlen hrc
  go_loopw [8] (fun i wr => ∃ k : Nat, k ≤ 256 ∧ i = .int .i64 k ∧ Hid (SetAt wr w.heap.size (fun j => if j < k then P j else f j) ∧ Below w.heap.size w wr)) (fun i _ => 256 - (intOf i).toNat)
  case atStart => exact ⟨0, Nat.zero_le _, rfl, Lib.hid ⟨hst.out.congr (fun j _ => by simp), (Below.refl _ w).alloc (Nat.le_refl _) _⟩⟩
  case round =>
    obtain ⟨k, hk, rfl, hI⟩ := hrel
    by_cases hk2 : k < 256
    · have c1 : wr.cell? ⟨w.heap.size, k, none⟩ = some (.bool (f k)) := by
        have := hI.out.1.get hk2
        simpa using this
      have z := hI.out.1.fz k
      have hkl : (k : Int) < 256 := by omega
      have h2 := hI.out.1.put k (!f k)
      have b2 := hI.out.2.setCell (p := ⟨w.heap.size, k, none⟩) (Nat.le_refl _) (.bool (!f k))
      have hPk := HP.out k
      have HPK := Lib.hid hPk
      have HS2 := Lib.hid h2
      have B2' := Lib.hid b2
      clear h2 b2 hPk
      generalize f k = x at *
      cases x
      all_goals
        go_wp2
        go_roundw
        case rel =>
          exact ⟨k + 1, by omega, by go_num, Lib.hid ⟨SetAt.congr HS2.out (fun j _ => upd_step P f k _ HPK.out j), B2'.out⟩⟩
        case measure => simp [intOf]; omega
    · have hkl : ¬ (k : Int) < 256 := by omega
      go_wp2
      go_ret
      exact ⟨rfl, hI.out.1.congr (fun j hj => by rw [if_pos (by omega)]), hI.out.2⟩

theorem without67 (B1 B2 : Nat) (f g : Nat → Bool) (w : World) (h1 : SetAt w B1 f) (h2 : SetAt w B2 g) :
    Calls Tryd.prog 67 #[.pointer (some ⟨B1, 0, none⟩), .pointer (some ⟨B2, 0, none⟩)] w fun e w' => ∃ R, e = .returned (.pointer (some ⟨R, 0, none⟩)) ∧ Hid (w.heap.size ≤ R ∧ SetAt w' R (fun i => f i && !g i) ∧ Below w.heap.size w w') := by
  have H1 := Lib.hid h1
  have H2 := Lib.hid h2
  have hl1 := Rw.lt h1
  clear h1 h2
  go_enter Tryd.func67, Tryd.ntmps67
  go_wp2_with fail
  refine (invert65 _ _ _ H2.out).mono ?_
  rintro e w1 ⟨rfl, h3, b3⟩
  have H3 := Lib.hid h3
  have B3 := Lib.hid b3
  have s3 := b3.size
  have H1' := Lib.hid (H1.out.below b3 hl1)
  clear h3 b3
  go_wp2_with fail
  refine (inter72 _ _ _ _ _ H1'.out H3.out).mono ?_
  rintro e w2 ⟨rfl, h4, b4⟩
  have H4 := Lib.hid h4
  have B4 := Lib.hid (B3.out.trans (b4.mono s3))
  clear h4 b4
  go_wp2
  go_ret
  exact ⟨_, rfl, Lib.hid ⟨s3, H4.out, B4.out⟩⟩
end Go.Proofs.YtlcbcgillekphaaDoor.set
