/-
  Proved: the contracts of the decoder's sets of bytes: what newByteSet, newByteSetRange, union, intersect, invert, without make; what get tells · the contracts of union, intersect, invert, without of the decoder's sets · the contracts of the functions that make the decoder's sets: each set has just the bytes that it is said to have.
  Conditions: each law's own; a text of at most 4000 bytes where one is read.
-/
import Derived.Test.YtlcbcgillekphaaGreatDoorGa
import Derived.Outline
import Derived.WalkLawsBesides
import Derived.WalkSpells
import Derived.Deep.QuietTactic
import Derived.BigQuiet
import Derived.Deep.WholeRow
namespace Go.Proofs.YtlcbcgillekphaaGreatDoor.set
open Go.RowKit Mem rw
set_option linter.unusedVariables false

def cellsOf (f : Nat → Bool) : List Value := (List.range 256).map fun i => .bool (f i)
theorem cellsOf_len (f : Nat → Bool) : (cellsOf f).length = 256 := by simp [cellsOf]
/-- A set lies at B: it has just the bytes of f. -/
def SetAt (w : World) (B : Nat) (f : Nat → Bool) : Prop := Rw w B (cellsOf f) 126
theorem SetAt.get {w : World} {B : Nat} {f : Nat → Bool} (h : SetAt w B f) {j : Nat} (hj : j < 256) : w.cell? ⟨B, j, none⟩ = some (.bool (f j)) := by
  rw [Rw.cell h]
  simp [cellsOf, hj]
theorem SetAt.congr {w : World} {B : Nat} {f g : Nat → Bool} (h : SetAt w B f) (e : ∀ j, j < 256 → f j = g j) : SetAt w B g := by
  have : cellsOf f = cellsOf g := by
    unfold cellsOf
    apply List.map_congr_left
    intro j hj
    rw [e j (by simpa using hj)]
  unfold SetAt
  rw [← this]
  exact h
theorem SetAt.fz {w : World} {B : Nat} {f : Nat → Bool} (h : SetAt w B f) (j : Nat) : w.frozen? ⟨B, j, none⟩ = false := Rw.fz h j
theorem SetAt.put {w : World} {B : Nat} {f : Nat → Bool} (h : SetAt w B f) (k : Nat) (b : Bool) : SetAt (w.setCell ⟨B, k, none⟩ (.bool b)) B (fun j => if j = k then b else f j) := by
  have h1 := Rw.set h k (.bool b)
  unfold SetAt
  have e : (cellsOf f).set k (.bool b) = cellsOf (fun j => if j = k then b else f j) := by
    apply List.ext_getElem (by simp [cellsOf])
    intro j h1 h2
    simp only [cellsOf, List.length_map, List.length_range, List.length_set] at h1 h2
    simp only [cellsOf, List.getElem_set, List.getElem_map, List.getElem_range]
    by_cases hj : k = j
    · subst hj; simp
    · rw [if_neg hj, if_neg (fun e => hj e.symm)]
  rw [← e]
  exact h1
theorem SetAt.but {S : List Nat} {w w' : World} {B : Nat} {f : Nat → Bool} (h : SetAt w B f) (hb : But S w w') (hn : B ∉ S) : SetAt w' B f := Rw.but h hb hn
theorem SetAt.below {n : Nat} {w w' : World} {B : Nat} {f : Nat → Bool} (h : SetAt w B f) (hb : Below n w w') (hn : B < n) : SetAt w' B f := Rw.below h hb hn
theorem zeros : Tryz.zeroCells126 = (cellsOf fun _ => false).toArray := by kernel_rfl
theorem SetAt.zero (w : World) : SetAt (w.alloc (.cells Tryz.zeroCells126 126)) w.heap.size fun _ => false := by
  rw [zeros]
  exact Rw.new w _ _

theorem set71 (B : Nat) (f : Nat → Bool) (x : UInt8) (w : World) (h : SetAt w B f) :
    Calls Tryz.prog 91 #[.pointer (some ⟨B, 0, none⟩), .int .u8 x.toNat] w fun e w' => e = .returned (.tuple #[]) ∧ w.setCell ⟨B, x.toNat, none⟩ (.bool true) = w' := by
  have c := h.get x.toNat_lt
  have z := h.fz x.toNat
  have hx := x.toNat_lt
  clear h
  go_enter Tryz.func91, Tryz.ntmps91
  go_wp2
  go_end0
  exact ⟨rfl, rfl⟩
theorem get33 (B : Nat) (f : Nat → Bool) (x : UInt8) (w : World) (h : SetAt w B f) :
    Calls Tryz.prog 58 #[.pointer (some ⟨B, 0, none⟩), .int .u8 x.toNat] w fun e w' => e = .returned (.bool (f x.toNat)) ∧ w = w' := by
  have c := h.get x.toNat_lt
  have hx := x.toNat_lt
  clear h
  go_enter Tryz.func58, Tryz.ntmps58
  go_wp2
  go_ret
  exact ⟨rfl, rfl⟩

/-- A list has a byte. -/
def hasB (l : List UInt8) (i : Nat) : Bool := l.any fun c => c.toNat == i
theorem hasB_snoc (l : List UInt8) (c : UInt8) (i : Nat) : hasB (l ++ [c]) i = (hasB l i || c.toNat == i) := by simp [hasB]
theorem new63 (s : ByteArray) (hs : s.size ≤ 1000) (w : World) :
    Calls Tryz.prog 76 #[.string s] w fun e w' => e = .returned (.pointer (some ⟨w.heap.size, 0, none⟩)) ∧ SetAt w' w.heap.size (hasB s.data.toList) ∧ Below w.heap.size w w' := by
  have hz := SetAt.zero w
  have HZ := Lib.hid hz
  clear hz
  go_enter Tryz.func76, Tryz.ntmps76
  go_wp2_with fail
  go_loopw [4] (fun i wr => ∃ k : Nat, k ≤ s.size ∧ i = .int .i64 k ∧ Hid (SetAt wr w.heap.size (hasB (s.data.toList.take k)) ∧ Below w.heap.size w wr)) (fun i _ => s.size - (intOf i).toNat)
  case atStart => exact ⟨0, Nat.zero_le _, rfl, Lib.hid ⟨HZ.out.congr (fun j _ => by simp [hasB]), (Below.refl _ w).alloc (Nat.le_refl _) _⟩⟩
  case round =>
    obtain ⟨k, hk, rfl, hI⟩ := hrel
    by_cases hlt : k < s.size
    · have hpl : k < s.data.toList.length := by simpa using hlt
      have htk : s.data.toList.take (k + 1) = s.data.toList.take k ++ [s[k]'hlt] := by
        rw [List.take_succ_eq_append_getElem hpl]
        rfl
      obtain ⟨c, hc⟩ : ∃ c, s[k]'hlt = c := ⟨_, rfl⟩
      rw [hc] at htk
      have HT := Lib.hid htk
      clear htk
      have hkl : (k : Int) < (s.size : Int) := by omega
      go_wp2_with fail
      refine (set71 _ _ c _ hI.out.1).mono ?_
      rintro e w2 ⟨rfl, hw2⟩
      have h2 := hI.out.1.put c.toNat true
      have b2 := hI.out.2.setCell (p := ⟨w.heap.size, c.toNat, none⟩) (Nat.le_refl _) (.bool true)
      rw [hw2] at h2 b2
      have H2 := Lib.hid h2
      have B2 := Lib.hid b2
      clear hw2 h2 b2
      go_wp2
      go_roundw
      case rel =>
        refine ⟨k + 1, by omega, by go_num, Lib.hid ⟨H2.out.congr (fun j _ => ?_), B2.out⟩⟩
        rw [HT.out, hasB_snoc]
        by_cases hj : j = c.toNat
        · subst hj; simp
        · have : (c.toNat == j) = false := by rw [beq_eq_false_iff_ne]; exact fun e => hj e.symm
          simp [hj, this]
      case measure => simp [intOf]; omega
    · have hkl : ¬ (k : Int) < (s.size : Int) := by omega
      have hks : k = s.size := by omega
      have htk : s.data.toList.take k = s.data.toList := List.take_of_length_le (by simp; omega)
      have HT := Lib.hid htk
      clear htk hks
      go_wp2
      go_ret
      rw [← HT.out]
      exact ⟨rfl, hI.out.1, hI.out.2⟩

theorem range66 (w : World) :
    Calls Tryz.prog 92 #[.int .u8 0, .int .u8 31] w fun e w' => e = .returned (.pointer (some ⟨w.heap.size, 0, none⟩)) ∧ SetAt w' w.heap.size (fun i => decide (i < 32)) ∧ Below w.heap.size w w' := by
  have hz := SetAt.zero w
  have HZ := Lib.hid hz
  clear hz
  go_enter Tryz.func92, Tryz.ntmps92
  go_wp2_with fail
  go_loopw [6] (fun i wr => ∃ c : UInt8, c.toNat ≤ 32 ∧ i = .int .u8 c.toNat ∧ Hid (SetAt wr w.heap.size (fun i => decide (i < c.toNat)) ∧ Below w.heap.size w wr)) (fun i _ => 32 - (intOf i).toNat)
  case atStart => exact ⟨0, by decide, rfl, Lib.hid ⟨HZ.out.congr (fun j _ => by simp), (Below.refl _ w).alloc (Nat.le_refl _) _⟩⟩
  case round =>
    obtain ⟨c, hc, rfl, hI⟩ := hrel
    by_cases hlt : c.toNat ≤ 31
    · have hl : (c.toNat : Int) ≤ 31 := by omega
      have hc1 : (c + 1).toNat = c.toNat + 1 := by
        rw [UInt8.toNat_add]
        have : (1 : UInt8).toNat = 1 := rfl
        rw [this]
        omega
      have HC := Lib.hid hc1
      clear hc1
      go_wp2_with fail
      refine (set71 _ _ c _ hI.out.1).mono ?_
      rintro e w2 ⟨rfl, hw2⟩
      have h2 := hI.out.1.put c.toNat true
      have b2 := hI.out.2.setCell (p := ⟨w.heap.size, c.toNat, none⟩) (Nat.le_refl _) (.bool true)
      rw [hw2] at h2 b2
      have H2 := Lib.hid h2
      have B2 := Lib.hid b2
      clear hw2 h2 b2
      go_wp2
      go_roundw
      case rel =>
        refine ⟨c + 1, by rw [HC.out]; omega, by rw [HC.out]; go_num, Lib.hid ⟨H2.out.congr (fun j _ => ?_), B2.out⟩⟩
        rw [HC.out]
        by_cases hj : j = c.toNat
        · subst hj; simp
        · simp [hj]; omega
      case measure => simp [intOf]; omega
    · have hl : ¬ (c.toNat : Int) ≤ 31 := by omega
      go_wp2
      go_ret
      refine ⟨rfl, hI.out.1.congr (fun j _ => ?_), hI.out.2⟩
      have : c.toNat = 32 := by omega
      rw [this]
end Go.Proofs.YtlcbcgillekphaaGreatDoor.set
namespace Go.Proofs.YtlcbcgillekphaaGreatDoor.set
open Go.RowKit Mem rw
set_option linter.unusedVariables false

theorem infoS : (Tryz.prog.info? 126).map (·.size) = some 256 := by kernel_rfl
theorem toArr_size (f : Nat → Bool) : (cellsOf f).toArray.size = 256 := by simp [cellsOf]
theorem one_cells (f : Nat → Bool) : (cellsOf f).toArray.all (·.oneCell') = true := by
  rw [Array.all_eq_true]
  intro i hi
  simp [cellsOf, Value.oneCell']
theorem setRow_new (w : World) (Z C : Array Value) (t : TypeId) : (w.alloc (.cells Z t)).setRow w.heap.size C = w.alloc (.cells C t) := by
  simp only [World.setRow, World.alloc]
  congr 1
  apply Array.ext_getElem?
  intro i
  rw [Array.getElem?_modify, Array.getElem?_push, Array.getElem?_push]
  by_cases h : w.heap.size = i
  · subst h; simp
  · rw [if_neg h, if_neg (fun e => h e.symm), if_neg (fun e => h e.symm)]

theorem upd_step (P f : Nat → Bool) (k : Nat) (r : Bool) (hr : r = P k) (j : Nat) : (if j = k then r else if j < k then P j else f j) = (if j < k + 1 then P j else f j) := by
  by_cases hj : j = k
  · subst hj
    rw [if_pos rfl, if_pos (by omega), hr]
  · rw [if_neg hj]
    by_cases hjk : j < k
    · rw [if_pos hjk, if_pos (by omega)]
    · rw [if_neg hjk, if_neg (by omega)]
theorem run_cells (w : World) (f : Nat → Bool) : (storeCells ⟨w.heap.size, 0, none⟩ (cellsOf f) 0).run Tryz.prog (w.alloc (.cells Tryz.zeroCells126 126)) = .ok () (w.alloc (.cells (cellsOf f).toArray 126)) := by
  have := run_storeCells_new (P := Tryz.prog) w 126 Tryz.zeroCells126 (cellsOf f).toArray (by rw [infoS, toArr_size]) (by rw [zeros, toArr_size, toArr_size]) (one_cells f)
  simpa using this

set_option maxRecDepth 100000 in
theorem union64 (B1 B2 : Nat) (f g : Nat → Bool) (w : World) (h1 : SetAt w B1 f) (h2 : SetAt w B2 g) :
    Calls Tryz.prog 84 #[.pointer (some ⟨B1, 0, none⟩), .pointer (some ⟨B2, 0, none⟩)] w fun e w' => e = .returned (.pointer (some ⟨w.heap.size, 0, none⟩)) ∧ SetAt w' w.heap.size (fun i => f i || g i) ∧ Below w.heap.size w w' := by
  have H1 := Lib.hid h1
  have hl1 := Rw.lt h1
  have H2 := Lib.hid h2
  have hl2 := Rw.lt h2
  clear h1 h2
  have hst : Hid (SetAt (w.alloc (.cells (cellsOf f).toArray 126)) w.heap.size f) := Lib.hid (Rw.new w _ _)
  obtain ⟨P, hP⟩ : ∃ P : Nat → Bool, (fun i => f i || g i) = P := ⟨_, rfl⟩
  have HP : Hid (∀ i, (f i || g i) = P i) := Lib.hid (fun i => by rw [← hP])
  rw [hP]
  clear hP
  go_enter Tryz.func84, Tryz.ntmps84
  have hlen := cellsOf_len f
  have hrc := run_cells w f
  go_wp2_with (refine wpList_load_row rfl 126 (.tmp 8) rfl B1 rfl 126 (cellsOf f).toArray (0, 0) _ H1.out Tryz.underlying126 rfl (by rw [infoS, toArr_size]) ?_)
  clear hlen hrc
  go_loopw [10] (fun i wr => ∃ k : Nat, k ≤ 256 ∧ i = .int .i64 k ∧ Hid (SetAt wr w.heap.size (fun j => if j < k then P j else f j) ∧ Below w.heap.size w wr)) (fun i _ => 256 - (intOf i).toNat)
  case atStart => exact ⟨0, Nat.zero_le _, rfl, Lib.hid ⟨hst.out.congr (fun j _ => by simp), (Below.refl _ w).alloc (Nat.le_refl _) _⟩⟩
  case round =>
    obtain ⟨k, hk, rfl, hI⟩ := hrel
    by_cases hk2 : k < 256
    · have c1 : wr.cell? ⟨w.heap.size, k, none⟩ = some (.bool (f k)) := by
        have := hI.out.1.get hk2
        simpa using this
      have c2 := (H2.out.below hI.out.2 hl2).get hk2
      have z := hI.out.1.fz k
      have hkl : (k : Int) < 256 := by omega
      have h2 := hI.out.1.put k (f k || g k)
      have b2 := hI.out.2.setCell (p := ⟨w.heap.size, k, none⟩) (Nat.le_refl _) (.bool (f k || g k))
      have hPk := HP.out k
      have HPK := Lib.hid hPk
      have HS2 := Lib.hid h2
      have B2' := Lib.hid b2
      clear h2 b2 hPk
      generalize f k = x at *
      generalize g k = y at *
      cases x <;> cases y
      all_goals
        go_wp2
        go_roundw
        case rel =>
          exact ⟨k + 1, by omega, by go_num, Lib.hid ⟨SetAt.congr HS2.out (fun j _ => upd_step P f k _ HPK.out j), B2'.out⟩⟩
        case measure => simp [intOf]; omega
    · have hkl : ¬ (k : Int) < 256 := by omega
      go_wp2
      go_ret
      exact ⟨rfl, hI.out.1.congr (fun j hj => by rw [if_pos (by omega)]), hI.out.2⟩

set_option maxRecDepth 100000 in
theorem inter72 (B1 B2 : Nat) (f g : Nat → Bool) (w : World) (h1 : SetAt w B1 f) (h2 : SetAt w B2 g) :
    Calls Tryz.prog 93 #[.pointer (some ⟨B1, 0, none⟩), .pointer (some ⟨B2, 0, none⟩)] w fun e w' => e = .returned (.pointer (some ⟨w.heap.size, 0, none⟩)) ∧ SetAt w' w.heap.size (fun i => f i && g i) ∧ Below w.heap.size w w' := by
  have H1 := Lib.hid h1
  have hl1 := Rw.lt h1
  have H2 := Lib.hid h2
  have hl2 := Rw.lt h2
  clear h1 h2
  have hst : Hid (SetAt (w.alloc (.cells (cellsOf f).toArray 126)) w.heap.size f) := Lib.hid (Rw.new w _ _)
  obtain ⟨P, hP⟩ : ∃ P : Nat → Bool, (fun i => f i && g i) = P := ⟨_, rfl⟩
  have HP : Hid (∀ i, (f i && g i) = P i) := Lib.hid (fun i => by rw [← hP])
  rw [hP]
  clear hP
  go_enter Tryz.func93, Tryz.ntmps93
  have hlen := cellsOf_len f
  have hrc := run_cells w f
  go_wp2_with (refine wpList_load_row rfl 126 (.tmp 8) rfl B1 rfl 126 (cellsOf f).toArray (0, 0) _ H1.out Tryz.underlying126 rfl (by rw [infoS, toArr_size]) ?_)
  clear hlen hrc
  go_loopw [10] (fun i wr => ∃ k : Nat, k ≤ 256 ∧ i = .int .i64 k ∧ Hid (SetAt wr w.heap.size (fun j => if j < k then P j else f j) ∧ Below w.heap.size w wr)) (fun i _ => 256 - (intOf i).toNat)
  case atStart => exact ⟨0, Nat.zero_le _, rfl, Lib.hid ⟨hst.out.congr (fun j _ => by simp), (Below.refl _ w).alloc (Nat.le_refl _) _⟩⟩
  case round =>
    obtain ⟨k, hk, rfl, hI⟩ := hrel
    by_cases hk2 : k < 256
    · have c1 : wr.cell? ⟨w.heap.size, k, none⟩ = some (.bool (f k)) := by
        have := hI.out.1.get hk2
        simpa using this
      have c2 := (H2.out.below hI.out.2 hl2).get hk2
      have z := hI.out.1.fz k
      have hkl : (k : Int) < 256 := by omega
      have h2 := hI.out.1.put k (f k && g k)
      have b2 := hI.out.2.setCell (p := ⟨w.heap.size, k, none⟩) (Nat.le_refl _) (.bool (f k && g k))
      have hPk := HP.out k
      have HPK := Lib.hid hPk
      have HS2 := Lib.hid h2
      have B2' := Lib.hid b2
      clear h2 b2 hPk
      generalize f k = x at *
      generalize g k = y at *
      cases x <;> cases y
      all_goals
        go_wp2
        go_roundw
        case rel =>
          exact ⟨k + 1, by omega, by go_num, Lib.hid ⟨SetAt.congr HS2.out (fun j _ => upd_step P f k _ HPK.out j), B2'.out⟩⟩
        case measure => simp [intOf]; omega
    · have hkl : ¬ (k : Int) < 256 := by omega
      go_wp2
      go_ret
      exact ⟨rfl, hI.out.1.congr (fun j hj => by rw [if_pos (by omega)]), hI.out.2⟩

set_option maxRecDepth 100000 in
theorem invert65 (B1 : Nat) (f : Nat → Bool) (w : World) (h1 : SetAt w B1 f) :
    Calls Tryz.prog 78 #[.pointer (some ⟨B1, 0, none⟩)] w fun e w' => e = .returned (.pointer (some ⟨w.heap.size, 0, none⟩)) ∧ SetAt w' w.heap.size (fun i => !f i) ∧ Below w.heap.size w w' := by
  have H1 := Lib.hid h1
  have hl1 := Rw.lt h1
  clear h1
  have hst : Hid (SetAt (w.alloc (.cells (cellsOf f).toArray 126)) w.heap.size f) := Lib.hid (Rw.new w _ _)
  obtain ⟨P, hP⟩ : ∃ P : Nat → Bool, (fun i => !f i) = P := ⟨_, rfl⟩
  have HP : Hid (∀ i, (!f i) = P i) := Lib.hid (fun i => by rw [← hP])
  rw [hP]
  clear hP
  go_enter Tryz.func78, Tryz.ntmps78
  have hlen := cellsOf_len f
  have hrc := run_cells w f
  go_wp2_with (refine wpList_load_row rfl 126 (.tmp 6) rfl B1 rfl 126 (cellsOf f).toArray (0, 0) _ H1.out Tryz.underlying126 rfl (by rw [infoS, toArr_size]) ?_)
  clear hlen hrc
  go_loopw [8] (fun i wr => ∃ k : Nat, k ≤ 256 ∧ i = .int .i64 k ∧ Hid (SetAt wr w.heap.size (fun j => if j < k then P j else f j) ∧ Below w.heap.size w wr)) (fun i _ => 256 - (intOf i).toNat)
  case atStart => exact ⟨0, Nat.zero_le _, rfl, Lib.hid ⟨hst.out.congr (fun j _ => by simp), (Below.refl _ w).alloc (Nat.le_refl _) _⟩⟩
  case round =>
    obtain ⟨k, hk, rfl, hI⟩ := hrel
    by_cases hk2 : k < 256
    · have c1 : wr.cell? ⟨w.heap.size, k, none⟩ = some (.bool (f k)) := by
        have := hI.out.1.get hk2
        simpa using this
      have z := hI.out.1.fz k
      have hkl : (k : Int) < 256 := by omega
      have h2 := hI.out.1.put k (!f k)
      have b2 := hI.out.2.setCell (p := ⟨w.heap.size, k, none⟩) (Nat.le_refl _) (.bool (!f k))
      have hPk := HP.out k
      have HPK := Lib.hid hPk
      have HS2 := Lib.hid h2
      have B2' := Lib.hid b2
      clear h2 b2 hPk
      generalize f k = x at *
      cases x
      all_goals
        go_wp2
        go_roundw
        case rel =>
          exact ⟨k + 1, by omega, by go_num, Lib.hid ⟨SetAt.congr HS2.out (fun j _ => upd_step P f k _ HPK.out j), B2'.out⟩⟩
        case measure => simp [intOf]; omega
    · have hkl : ¬ (k : Int) < 256 := by omega
      go_wp2
      go_ret
      exact ⟨rfl, hI.out.1.congr (fun j hj => by rw [if_pos (by omega)]), hI.out.2⟩

theorem without67 (B1 B2 : Nat) (f g : Nat → Bool) (w : World) (h1 : SetAt w B1 f) (h2 : SetAt w B2 g) :
    Calls Tryz.prog 79 #[.pointer (some ⟨B1, 0, none⟩), .pointer (some ⟨B2, 0, none⟩)] w fun e w' => ∃ R, e = .returned (.pointer (some ⟨R, 0, none⟩)) ∧ Hid (w.heap.size ≤ R ∧ SetAt w' R (fun i => f i && !g i) ∧ Below w.heap.size w w') := by
  have H1 := Lib.hid h1
  have H2 := Lib.hid h2
  have hl1 := Rw.lt h1
  clear h1 h2
  go_enter Tryz.func79, Tryz.ntmps79
  go_wp2_with fail
  refine (invert65 _ _ _ H2.out).mono ?_
  rintro e w1 ⟨rfl, h3, b3⟩
  have H3 := Lib.hid h3
  have B3 := Lib.hid b3
  have s3 := b3.size
  have H1' := Lib.hid (H1.out.below b3 hl1)
  clear h3 b3
  go_wp2_with fail
  refine (inter72 _ _ _ _ _ H1'.out H3.out).mono ?_
  rintro e w2 ⟨rfl, h4, b4⟩
  have H4 := Lib.hid h4
  have B4 := Lib.hid (B3.out.trans (b4.mono s3))
  clear h4 b4
  go_wp2
  go_ret
  exact ⟨_, rfl, Lib.hid ⟨s3, H4.out, B4.out⟩⟩
end Go.Proofs.YtlcbcgillekphaaGreatDoor.set
namespace Go.Proofs.YtlcbcgillekphaaGreatDoor.set
open Go.RowKit Mem rw
set_option linter.unusedVariables false

/-- What a maker of a set leaves. -/
def Mk (w : World) (f : Nat → Bool) (R : Nat) (w' : World) : Prop := w.heap.size ≤ R ∧ SetAt w' R f ∧ Below w.heap.size w w'
theorem Mk.congr {w w' : World} {f g : Nat → Bool} {R : Nat} (h : Mk w f R w') (e : ∀ j : Fin 256, f j.val = g j.val) : Mk w g R w' := ⟨h.1, h.2.1.congr (fun j hj => e ⟨j, hj⟩), h.2.2⟩
theorem Mk.then {w w' w'' : World} {f g : Nat → Bool} {R S : Nat} (h : Mk w f R w') (k : Mk w' g S w'') : Mk w g S w'' ∧ SetAt w'' R f ∧ Below w.heap.size w w'' := by
  have hs := h.2.2.size
  have hR := Rw.lt h.2.1
  have hb := h.2.2.trans (k.2.2.mono hs)
  exact ⟨⟨Nat.le_trans hs k.1, k.2.1, hb⟩, h.2.1.below k.2.2 hR, hb⟩
/-- A set's bytes by their numbers. -/
def inN (k : Nat) (i : Nat) : Bool := dm.inS k (UInt8.ofNat i)
theorem inN_byte (k : Nat) (c : UInt8) : inN k c.toNat = dm.inS k c := by simp [inN]
def SetIs (k : Nat) (w : World) (e : Ending) (w' : World) : Prop := ∃ R, e = .returned (.pointer (some ⟨R, 0, none⟩)) ∧ Mk w (inN k) R w'

theorem mk_fieldSeparatorSpace (w : World) : Calls Tryz.prog 44 #[] w (SetIs 0 w) := by
  go_enter Tryz.func44, Tryz.ntmps44
  go_wp2_with fail
  refine (new63 ⟨#[32]⟩ (by decide) _).mono ?_
  rintro e w1 ⟨rfl, h, b⟩
  have k0 : Mk w (hasB [32]) w.heap.size w1 := ⟨Nat.le_refl _, h, b⟩
  clear h b
  have T0 := Lib.hid k0
  have S0 := Lib.hid k0.2.1
  clear k0
  clear S0
  go_wp2
  go_ret
  exact ⟨_, rfl, T0.out.congr (by decide +kernel)⟩

theorem mk_whitespace (w : World) : Calls Tryz.prog 68 #[] w (SetIs 1 w) := by
  go_enter Tryz.func68, Tryz.ntmps68
  go_wp2_with fail
  refine (mk_fieldSeparatorSpace _).mono ?_
  rintro e w1 ⟨R0, rfl, h⟩
  have k0 : Mk w (inN 0) R0 w1 := h
  clear h
  have T0 := Lib.hid k0
  have S0 := Lib.hid k0.2.1
  clear k0
  go_wp2_with fail
  refine (new63 ⟨#[13, 10]⟩ (by decide) _).mono ?_
  rintro e w2 ⟨rfl, h, b⟩
  have k1 : Mk w1 (hasB [13, 10]) w1.heap.size w2 := ⟨Nat.le_refl _, h, b⟩
  clear h b
  have s0 := Lib.hid (S0.out.below k1.2.2 (Rw.lt S0.out))
  clear S0
  have S0 := s0
  clear s0
  have T1 := Lib.hid (T0.out.then k1).1
  clear T0
  have S1 := Lib.hid k1.2.1
  clear k1
  go_wp2_with fail
  refine (union64 R0 w1.heap.size _ _ _ S0.out S1.out).mono ?_
  rintro e w3 ⟨rfl, h, b⟩
  have k2 : Mk w2 (fun i => (inN 0) i || (hasB [13, 10]) i) w2.heap.size w3 := ⟨Nat.le_refl _, h, b⟩
  clear h b
  have s0 := Lib.hid (S0.out.below k2.2.2 (Rw.lt S0.out))
  clear S0
  have S0 := s0
  clear s0
  have s1 := Lib.hid (S1.out.below k2.2.2 (Rw.lt S1.out))
  clear S1
  have S1 := s1
  clear s1
  have T2 := Lib.hid (T1.out.then k2).1
  clear T1
  have S2 := Lib.hid k2.2.1
  clear k2
  clear S0
  clear S1
  clear S2
  go_wp2
  go_ret
  exact ⟨_, rfl, T2.out.congr (by decide +kernel)⟩

theorem mk_nonPrintable (w : World) : Calls Tryz.prog 77 #[] w (SetIs 3 w) := by
  go_enter Tryz.func77, Tryz.ntmps77
  go_wp2_with fail
  refine (range66 _).mono ?_
  rintro e w1 ⟨rfl, h, b⟩
  have k0 : Mk w (fun i => decide (i < 32)) w.heap.size w1 := ⟨Nat.le_refl _, h, b⟩
  clear h b
  have T0 := Lib.hid k0
  have S0 := Lib.hid k0.2.1
  clear k0
  go_wp2_with fail
  refine (new63 ⟨#[127]⟩ (by decide) _).mono ?_
  rintro e w2 ⟨rfl, h, b⟩
  have k1 : Mk w1 (hasB [127]) w1.heap.size w2 := ⟨Nat.le_refl _, h, b⟩
  clear h b
  have s0 := Lib.hid (S0.out.below k1.2.2 (Rw.lt S0.out))
  clear S0
  have S0 := s0
  clear s0
  have T1 := Lib.hid (T0.out.then k1).1
  clear T0
  have S1 := Lib.hid k1.2.1
  clear k1
  go_wp2_with fail
  refine (union64 w.heap.size w1.heap.size _ _ _ S0.out S1.out).mono ?_
  rintro e w3 ⟨rfl, h, b⟩
  have k2 : Mk w2 (fun i => (fun i => decide (i < 32)) i || (hasB [127]) i) w2.heap.size w3 := ⟨Nat.le_refl _, h, b⟩
  clear h b
  have s0 := Lib.hid (S0.out.below k2.2.2 (Rw.lt S0.out))
  clear S0
  have S0 := s0
  clear s0
  have s1 := Lib.hid (S1.out.below k2.2.2 (Rw.lt S1.out))
  clear S1
  have S1 := s1
  clear s1
  have T2 := Lib.hid (T1.out.then k2).1
  clear T1
  have S2 := Lib.hid k2.2.1
  clear k2
  clear S0
  clear S1
  clear S2
  go_wp2
  go_ret
  exact ⟨_, rfl, T2.out.congr (by decide +kernel)⟩

theorem mk_eolChars (w : World) : Calls Tryz.prog 80 #[] w (SetIs 4 w) := by
  go_enter Tryz.func80, Tryz.ntmps80
  go_wp2_with fail
  refine (new63 ⟨#[13, 10]⟩ (by decide) _).mono ?_
  rintro e w1 ⟨rfl, h, b⟩
  have k0 : Mk w (hasB [13, 10]) w.heap.size w1 := ⟨Nat.le_refl _, h, b⟩
  clear h b
  have T0 := Lib.hid k0
  have S0 := Lib.hid k0.2.1
  clear k0
  clear S0
  go_wp2
  go_ret
  exact ⟨_, rfl, T0.out.congr (by decide +kernel)⟩

theorem mk_tagKeyChars (w : World) : Calls Tryz.prog 59 #[] w (SetIs 2 w) := by
  go_enter Tryz.func59, Tryz.ntmps59
  go_wp2_with fail
  refine (new63 ⟨#[44, 61]⟩ (by decide) _).mono ?_
  rintro e w1 ⟨rfl, h, b⟩
  have k0 : Mk w (hasB [44, 61]) w.heap.size w1 := ⟨Nat.le_refl _, h, b⟩
  clear h b
  have T0 := Lib.hid k0
  have S0 := Lib.hid k0.2.1
  clear k0
  go_wp2_with fail
  refine (mk_whitespace _).mono ?_
  rintro e w2 ⟨R1, rfl, h⟩
  have k1 : Mk w1 (inN 1) R1 w2 := h
  clear h
  have s0 := Lib.hid (S0.out.below k1.2.2 (Rw.lt S0.out))
  clear S0
  have S0 := s0
  clear s0
  have T1 := Lib.hid (T0.out.then k1).1
  clear T0
  have S1 := Lib.hid k1.2.1
  clear k1
  go_wp2_with fail
  refine (union64 w.heap.size R1 _ _ _ S0.out S1.out).mono ?_
  rintro e w3 ⟨rfl, h, b⟩
  have k2 : Mk w2 (fun i => (hasB [44, 61]) i || (inN 1) i) w2.heap.size w3 := ⟨Nat.le_refl _, h, b⟩
  clear h b
  have s0 := Lib.hid (S0.out.below k2.2.2 (Rw.lt S0.out))
  clear S0
  have S0 := s0
  clear s0
  have s1 := Lib.hid (S1.out.below k2.2.2 (Rw.lt S1.out))
  clear S1
  have S1 := s1
  clear s1
  have T2 := Lib.hid (T1.out.then k2).1
  clear T1
  have S2 := Lib.hid k2.2.1
  clear k2
  clear S0
  clear S1
  go_wp2_with fail
  refine (mk_nonPrintable _).mono ?_
  rintro e w4 ⟨R3, rfl, h⟩
  have k3 : Mk w3 (inN 3) R3 w4 := h
  clear h
  have s2 := Lib.hid (S2.out.below k3.2.2 (Rw.lt S2.out))
  clear S2
  have S2 := s2
  clear s2
  have T3 := Lib.hid (T2.out.then k3).1
  clear T2
  have S3 := Lib.hid k3.2.1
  clear k3
  go_wp2_with fail
  refine (union64 w2.heap.size R3 _ _ _ S2.out S3.out).mono ?_
  rintro e w5 ⟨rfl, h, b⟩
  have k4 : Mk w4 (fun i => (fun i => (hasB [44, 61]) i || (inN 1) i) i || (inN 3) i) w4.heap.size w5 := ⟨Nat.le_refl _, h, b⟩
  clear h b
  have s2 := Lib.hid (S2.out.below k4.2.2 (Rw.lt S2.out))
  clear S2
  have S2 := s2
  clear s2
  have s3 := Lib.hid (S3.out.below k4.2.2 (Rw.lt S3.out))
  clear S3
  have S3 := s3
  clear s3
  have T4 := Lib.hid (T3.out.then k4).1
  clear T3
  have S4 := Lib.hid k4.2.1
  clear k4
  clear S2
  clear S3
  go_wp2_with fail
  refine (invert65 w4.heap.size _ _ S4.out).mono ?_
  rintro e w6 ⟨rfl, h, b⟩
  have k5 : Mk w5 (fun i => !(fun i => (fun i => (hasB [44, 61]) i || (inN 1) i) i || (inN 3) i) i) w5.heap.size w6 := ⟨Nat.le_refl _, h, b⟩
  clear h b
  have s4 := Lib.hid (S4.out.below k5.2.2 (Rw.lt S4.out))
  clear S4
  have S4 := s4
  clear s4
  have T5 := Lib.hid (T4.out.then k5).1
  clear T4
  have S5 := Lib.hid k5.2.1
  clear k5
  clear S4
  clear S5
  go_wp2
  go_ret
  exact ⟨_, rfl, T5.out.congr (by decide +kernel)⟩

theorem mk_measurementChars (w : World) : Calls Tryz.prog 52 #[] w (SetIs 5 w) := by
  go_enter Tryz.func52, Tryz.ntmps52
  go_wp2_with fail
  refine (new63 ⟨#[44, 32]⟩ (by decide) _).mono ?_
  rintro e w1 ⟨rfl, h, b⟩
  have k0 : Mk w (hasB [44, 32]) w.heap.size w1 := ⟨Nat.le_refl _, h, b⟩
  clear h b
  have T0 := Lib.hid k0
  have S0 := Lib.hid k0.2.1
  clear k0
  go_wp2_with fail
  refine (mk_nonPrintable _).mono ?_
  rintro e w2 ⟨R1, rfl, h⟩
  have k1 : Mk w1 (inN 3) R1 w2 := h
  clear h
  have s0 := Lib.hid (S0.out.below k1.2.2 (Rw.lt S0.out))
  clear S0
  have S0 := s0
  clear s0
  have T1 := Lib.hid (T0.out.then k1).1
  clear T0
  have S1 := Lib.hid k1.2.1
  clear k1
  go_wp2_with fail
  refine (union64 w.heap.size R1 _ _ _ S0.out S1.out).mono ?_
  rintro e w3 ⟨rfl, h, b⟩
  have k2 : Mk w2 (fun i => (hasB [44, 32]) i || (inN 3) i) w2.heap.size w3 := ⟨Nat.le_refl _, h, b⟩
  clear h b
  have s0 := Lib.hid (S0.out.below k2.2.2 (Rw.lt S0.out))
  clear S0
  have S0 := s0
  clear s0
  have s1 := Lib.hid (S1.out.below k2.2.2 (Rw.lt S1.out))
  clear S1
  have S1 := s1
  clear s1
  have T2 := Lib.hid (T1.out.then k2).1
  clear T1
  have S2 := Lib.hid k2.2.1
  clear k2
  clear S0
  clear S1
  go_wp2_with fail
  refine (invert65 w2.heap.size _ _ S2.out).mono ?_
  rintro e w4 ⟨rfl, h, b⟩
  have k3 : Mk w3 (fun i => !(fun i => (hasB [44, 32]) i || (inN 3) i) i) w3.heap.size w4 := ⟨Nat.le_refl _, h, b⟩
  clear h b
  have s2 := Lib.hid (S2.out.below k3.2.2 (Rw.lt S2.out))
  clear S2
  have S2 := s2
  clear s2
  have T3 := Lib.hid (T2.out.then k3).1
  clear T2
  have S3 := Lib.hid k3.2.1
  clear k3
  clear S2
  clear S3
  go_wp2
  go_ret
  exact ⟨_, rfl, T3.out.congr (by decide +kernel)⟩

theorem mk_tagValChars (w : World) : Calls Tryz.prog 61 #[] w (SetIs 6 w) := by
  go_enter Tryz.func61, Tryz.ntmps61
  go_wp2_with fail
  refine (new63 ⟨#[44, 61]⟩ (by decide) _).mono ?_
  rintro e w1 ⟨rfl, h, b⟩
  have k0 : Mk w (hasB [44, 61]) w.heap.size w1 := ⟨Nat.le_refl _, h, b⟩
  clear h b
  have T0 := Lib.hid k0
  have S0 := Lib.hid k0.2.1
  clear k0
  go_wp2_with fail
  refine (mk_whitespace _).mono ?_
  rintro e w2 ⟨R1, rfl, h⟩
  have k1 : Mk w1 (inN 1) R1 w2 := h
  clear h
  have s0 := Lib.hid (S0.out.below k1.2.2 (Rw.lt S0.out))
  clear S0
  have S0 := s0
  clear s0
  have T1 := Lib.hid (T0.out.then k1).1
  clear T0
  have S1 := Lib.hid k1.2.1
  clear k1
  go_wp2_with fail
  refine (union64 w.heap.size R1 _ _ _ S0.out S1.out).mono ?_
  rintro e w3 ⟨rfl, h, b⟩
  have k2 : Mk w2 (fun i => (hasB [44, 61]) i || (inN 1) i) w2.heap.size w3 := ⟨Nat.le_refl _, h, b⟩
  clear h b
  have s0 := Lib.hid (S0.out.below k2.2.2 (Rw.lt S0.out))
  clear S0
  have S0 := s0
  clear s0
  have s1 := Lib.hid (S1.out.below k2.2.2 (Rw.lt S1.out))
  clear S1
  have S1 := s1
  clear s1
  have T2 := Lib.hid (T1.out.then k2).1
  clear T1
  have S2 := Lib.hid k2.2.1
  clear k2
  clear S0
  clear S1
  go_wp2_with fail
  refine (mk_nonPrintable _).mono ?_
  rintro e w4 ⟨R3, rfl, h⟩
  have k3 : Mk w3 (inN 3) R3 w4 := h
  clear h
  have s2 := Lib.hid (S2.out.below k3.2.2 (Rw.lt S2.out))
  clear S2
  have S2 := s2
  clear s2
  have T3 := Lib.hid (T2.out.then k3).1
  clear T2
  have S3 := Lib.hid k3.2.1
  clear k3
  go_wp2_with fail
  refine (union64 w2.heap.size R3 _ _ _ S2.out S3.out).mono ?_
  rintro e w5 ⟨rfl, h, b⟩
  have k4 : Mk w4 (fun i => (fun i => (hasB [44, 61]) i || (inN 1) i) i || (inN 3) i) w4.heap.size w5 := ⟨Nat.le_refl _, h, b⟩
  clear h b
  have s2 := Lib.hid (S2.out.below k4.2.2 (Rw.lt S2.out))
  clear S2
  have S2 := s2
  clear s2
  have s3 := Lib.hid (S3.out.below k4.2.2 (Rw.lt S3.out))
  clear S3
  have S3 := s3
  clear s3
  have T4 := Lib.hid (T3.out.then k4).1
  clear T3
  have S4 := Lib.hid k4.2.1
  clear k4
  clear S2
  clear S3
  go_wp2_with fail
  refine (invert65 w4.heap.size _ _ S4.out).mono ?_
  rintro e w6 ⟨rfl, h, b⟩
  have k5 : Mk w5 (fun i => !(fun i => (fun i => (hasB [44, 61]) i || (inN 1) i) i || (inN 3) i) i) w5.heap.size w6 := ⟨Nat.le_refl _, h, b⟩
  clear h b
  have s4 := Lib.hid (S4.out.below k5.2.2 (Rw.lt S4.out))
  clear S4
  have S4 := s4
  clear s4
  have T5 := Lib.hid (T4.out.then k5).1
  clear T4
  have S5 := Lib.hid k5.2.1
  clear k5
  clear S4
  clear S5
  go_wp2
  go_ret
  exact ⟨_, rfl, T5.out.congr (by decide +kernel)⟩

theorem mk_fieldKeyChars (w : World) : Calls Tryz.prog 63 #[] w (SetIs 7 w) := by
  go_enter Tryz.func63, Tryz.ntmps63
  go_wp2_with fail
  refine (mk_tagKeyChars _).mono ?_
  rintro e w1 ⟨R0, rfl, h⟩
  have k0 : Mk w (inN 2) R0 w1 := h
  clear h
  have T0 := Lib.hid k0
  have S0 := Lib.hid k0.2.1
  clear k0
  clear S0
  go_wp2
  go_ret
  exact ⟨_, rfl, T0.out.congr (by decide +kernel)⟩

theorem mk_fieldStringValChars (w : World) : Calls Tryz.prog 65 #[] w (SetIs 8 w) := by
  go_enter Tryz.func65, Tryz.ntmps65
  go_wp2_with fail
  refine (new63 ⟨#[34]⟩ (by decide) _).mono ?_
  rintro e w1 ⟨rfl, h, b⟩
  have k0 : Mk w (hasB [34]) w.heap.size w1 := ⟨Nat.le_refl _, h, b⟩
  clear h b
  have T0 := Lib.hid k0
  have S0 := Lib.hid k0.2.1
  clear k0
  go_wp2_with fail
  refine (invert65 w.heap.size _ _ S0.out).mono ?_
  rintro e w2 ⟨rfl, h, b⟩
  have k1 : Mk w1 (fun i => !(hasB [34]) i) w1.heap.size w2 := ⟨Nat.le_refl _, h, b⟩
  clear h b
  have s0 := Lib.hid (S0.out.below k1.2.2 (Rw.lt S0.out))
  clear S0
  have S0 := s0
  clear s0
  have T1 := Lib.hid (T0.out.then k1).1
  clear T0
  have S1 := Lib.hid k1.2.1
  clear k1
  clear S0
  clear S1
  go_wp2
  go_ret
  exact ⟨_, rfl, T1.out.congr (by decide +kernel)⟩

theorem mk_fieldValChars (w : World) : Calls Tryz.prog 67 #[] w (SetIs 9 w) := by
  go_enter Tryz.func67, Tryz.ntmps67
  go_wp2_with fail
  refine (new63 ⟨#[44]⟩ (by decide) _).mono ?_
  rintro e w1 ⟨rfl, h, b⟩
  have k0 : Mk w (hasB [44]) w.heap.size w1 := ⟨Nat.le_refl _, h, b⟩
  clear h b
  have T0 := Lib.hid k0
  have S0 := Lib.hid k0.2.1
  clear k0
  go_wp2_with fail
  refine (mk_whitespace _).mono ?_
  rintro e w2 ⟨R1, rfl, h⟩
  have k1 : Mk w1 (inN 1) R1 w2 := h
  clear h
  have s0 := Lib.hid (S0.out.below k1.2.2 (Rw.lt S0.out))
  clear S0
  have S0 := s0
  clear s0
  have T1 := Lib.hid (T0.out.then k1).1
  clear T0
  have S1 := Lib.hid k1.2.1
  clear k1
  go_wp2_with fail
  refine (union64 w.heap.size R1 _ _ _ S0.out S1.out).mono ?_
  rintro e w3 ⟨rfl, h, b⟩
  have k2 : Mk w2 (fun i => (hasB [44]) i || (inN 1) i) w2.heap.size w3 := ⟨Nat.le_refl _, h, b⟩
  clear h b
  have s0 := Lib.hid (S0.out.below k2.2.2 (Rw.lt S0.out))
  clear S0
  have S0 := s0
  clear s0
  have s1 := Lib.hid (S1.out.below k2.2.2 (Rw.lt S1.out))
  clear S1
  have S1 := s1
  clear s1
  have T2 := Lib.hid (T1.out.then k2).1
  clear T1
  have S2 := Lib.hid k2.2.1
  clear k2
  clear S0
  clear S1
  go_wp2_with fail
  refine (invert65 w2.heap.size _ _ S2.out).mono ?_
  rintro e w4 ⟨rfl, h, b⟩
  have k3 : Mk w3 (fun i => !(fun i => (hasB [44]) i || (inN 1) i) i) w3.heap.size w4 := ⟨Nat.le_refl _, h, b⟩
  clear h b
  have s2 := Lib.hid (S2.out.below k3.2.2 (Rw.lt S2.out))
  clear S2
  have S2 := s2
  clear s2
  have T3 := Lib.hid (T2.out.then k3).1
  clear T2
  have S3 := Lib.hid k3.2.1
  clear k3
  clear S2
  clear S3
  go_wp2
  go_ret
  exact ⟨_, rfl, T3.out.congr (by decide +kernel)⟩

theorem mk_timeChars (w : World) : Calls Tryz.prog 69 #[] w (SetIs 10 w) := by
  go_enter Tryz.func69, Tryz.ntmps69
  go_wp2_with fail
  refine (new63 ⟨#[45, 48, 49, 50, 51, 52, 53, 54, 55, 56, 57]⟩ (by decide) _).mono ?_
  rintro e w1 ⟨rfl, h, b⟩
  have k0 : Mk w (hasB [45, 48, 49, 50, 51, 52, 53, 54, 55, 56, 57]) w.heap.size w1 := ⟨Nat.le_refl _, h, b⟩
  clear h b
  have T0 := Lib.hid k0
  have S0 := Lib.hid k0.2.1
  clear k0
  clear S0
  go_wp2
  go_ret
  exact ⟨_, rfl, T0.out.congr (by decide +kernel)⟩

theorem mk_commentChars (w : World) : Calls Tryz.prog 46 #[] w (SetIs 11 w) := by
  go_enter Tryz.func46, Tryz.ntmps46
  go_wp2_with fail
  refine (mk_nonPrintable _).mono ?_
  rintro e w1 ⟨R0, rfl, h⟩
  have k0 : Mk w (inN 3) R0 w1 := h
  clear h
  have T0 := Lib.hid k0
  have S0 := Lib.hid k0.2.1
  clear k0
  go_wp2_with fail
  refine (invert65 R0 _ _ S0.out).mono ?_
  rintro e w2 ⟨rfl, h, b⟩
  have k1 : Mk w1 (fun i => !(inN 3) i) w1.heap.size w2 := ⟨Nat.le_refl _, h, b⟩
  clear h b
  have s0 := Lib.hid (S0.out.below k1.2.2 (Rw.lt S0.out))
  clear S0
  have S0 := s0
  clear s0
  have T1 := Lib.hid (T0.out.then k1).1
  clear T0
  have S1 := Lib.hid k1.2.1
  clear k1
  clear S0
  go_wp2_with fail
  refine (mk_eolChars _).mono ?_
  rintro e w3 ⟨R2, rfl, h⟩
  have k2 : Mk w2 (inN 4) R2 w3 := h
  clear h
  have s1 := Lib.hid (S1.out.below k2.2.2 (Rw.lt S1.out))
  clear S1
  have S1 := s1
  clear s1
  have T2 := Lib.hid (T1.out.then k2).1
  clear T1
  have S2 := Lib.hid k2.2.1
  clear k2
  go_wp2_with fail
  refine (without67 w1.heap.size R2 _ _ _ S1.out S2.out).mono ?_
  rintro e w4 ⟨R3, rfl, h⟩
  have k3 : Mk w3 (fun i => (fun i => !(inN 3) i) i && !(inN 4) i) R3 w4 := h.out
  clear h
  have s1 := Lib.hid (S1.out.below k3.2.2 (Rw.lt S1.out))
  clear S1
  have S1 := s1
  clear s1
  have s2 := Lib.hid (S2.out.below k3.2.2 (Rw.lt S2.out))
  clear S2
  have S2 := s2
  clear s2
  have T3 := Lib.hid (T2.out.then k3).1
  clear T2
  have S3 := Lib.hid k3.2.1
  clear k3
  clear S1
  clear S2
  clear S3
  go_wp2
  go_ret
  exact ⟨_, rfl, T3.out.congr (by decide +kernel)⟩

theorem mk_notEOL (w : World) : Calls Tryz.prog 70 #[] w (SetIs 12 w) := by
  go_enter Tryz.func70, Tryz.ntmps70
  go_wp2_with fail
  refine (mk_eolChars _).mono ?_
  rintro e w1 ⟨R0, rfl, h⟩
  have k0 : Mk w (inN 4) R0 w1 := h
  clear h
  have T0 := Lib.hid k0
  have S0 := Lib.hid k0.2.1
  clear k0
  go_wp2_with fail
  refine (invert65 R0 _ _ S0.out).mono ?_
  rintro e w2 ⟨rfl, h, b⟩
  have k1 : Mk w1 (fun i => !(inN 4) i) w1.heap.size w2 := ⟨Nat.le_refl _, h, b⟩
  clear h b
  have s0 := Lib.hid (S0.out.below k1.2.2 (Rw.lt S0.out))
  clear S0
  have S0 := s0
  clear s0
  have T1 := Lib.hid (T0.out.then k1).1
  clear T0
  have S1 := Lib.hid k1.2.1
  clear k1
  clear S0
  clear S1
  go_wp2
  go_ret
  exact ⟨_, rfl, T1.out.congr (by decide +kernel)⟩

theorem mk_notNewline (w : World) : Calls Tryz.prog 90 #[] w (SetIs 13 w) := by
  go_enter Tryz.func90, Tryz.ntmps90
  go_wp2_with fail
  refine (new63 ⟨#[10]⟩ (by decide) _).mono ?_
  rintro e w1 ⟨rfl, h, b⟩
  have k0 : Mk w (hasB [10]) w.heap.size w1 := ⟨Nat.le_refl _, h, b⟩
  clear h b
  have T0 := Lib.hid k0
  have S0 := Lib.hid k0.2.1
  clear k0
  go_wp2_with fail
  refine (invert65 w.heap.size _ _ S0.out).mono ?_
  rintro e w2 ⟨rfl, h, b⟩
  have k1 : Mk w1 (fun i => !(hasB [10]) i) w1.heap.size w2 := ⟨Nat.le_refl _, h, b⟩
  clear h b
  have s0 := Lib.hid (S0.out.below k1.2.2 (Rw.lt S0.out))
  clear S0
  have S0 := s0
  clear s0
  have T1 := Lib.hid (T0.out.then k1).1
  clear T0
  have S1 := Lib.hid k1.2.1
  clear k1
  clear S0
  clear S1
  go_wp2
  go_ret
  exact ⟨_, rfl, T1.out.congr (by decide +kernel)⟩
end Go.Proofs.YtlcbcgillekphaaGreatDoor.set
