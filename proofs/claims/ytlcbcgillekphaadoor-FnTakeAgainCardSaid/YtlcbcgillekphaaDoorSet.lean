/-
  Proved: the contracts of the decoder's sets of bytes: what newByteSet, newByteSetRange, union, intersect, invert, without make; what get tells.
  Conditions: each contract's own.
-/
import Derived.Test.YtlcbcgillekphaaDoorRw
import Derived.Test.YtlcbcgillekphaaDoorDm
import Derived.Outline
import Derived.WalkLawsBesides
import Derived.WalkSpells
import Derived.Deep.QuietTactic
import Derived.BigQuiet
namespace Go.Proofs.YtlcbcgillekphaaDoor.set
open Go.RowKit Mem rw
set_option linter.unusedVariables false

def cellsOf (f : Nat → Bool) : List Value := (List.range 256).map fun i => .bool (f i)
theorem cellsOf_len (f : Nat → Bool) : (cellsOf f).length = 256 := by simp [cellsOf]
/-- A set lies at B: it has just the bytes of f. -/
def SetAt (w : World) (B : Nat) (f : Nat → Bool) : Prop := Rw w B (cellsOf f) 100
theorem SetAt.get {w : World} {B : Nat} {f : Nat → Bool} (h : SetAt w B f) {j : Nat} (hj : j < 256) : w.cell? ⟨B, j, none⟩ = some (.bool (f j)) := by
  rw [Rw.cell h]
  simp [cellsOf, hj]
theorem SetAt.congr {w : World} {B : Nat} {f g : Nat → Bool} (h : SetAt w B f) (e : ∀ j, j < 256 → f j = g j) : SetAt w B g := by
  have : cellsOf f = cellsOf g := by
    unfold cellsOf
    apply List.map_congr_left
    intro j hj
    rw [e j (by simpa using hj)]
  unfold SetAt
  rw [← this]
  exact h
theorem SetAt.fz {w : World} {B : Nat} {f : Nat → Bool} (h : SetAt w B f) (j : Nat) : w.frozen? ⟨B, j, none⟩ = false := Rw.fz h j
theorem SetAt.put {w : World} {B : Nat} {f : Nat → Bool} (h : SetAt w B f) (k : Nat) (b : Bool) : SetAt (w.setCell ⟨B, k, none⟩ (.bool b)) B (fun j => if j = k then b else f j) := by
  have h1 := Rw.set h k (.bool b)
  unfold SetAt
  have e : (cellsOf f).set k (.bool b) = cellsOf (fun j => if j = k then b else f j) := by
    apply List.ext_getElem (by simp [cellsOf])
    intro j h1 h2
    simp only [cellsOf, List.length_map, List.length_range, List.length_set] at h1 h2
    simp only [cellsOf, List.getElem_set, List.getElem_map, List.getElem_range]
    by_cases hj : k = j
    · subst hj; simp
    · rw [if_neg hj, if_neg (fun e => hj e.symm)]
  rw [← e]
  exact h1
theorem SetAt.but {S : List Nat} {w w' : World} {B : Nat} {f : Nat → Bool} (h : SetAt w B f) (hb : But S w w') (hn : B ∉ S) : SetAt w' B f := Rw.but h hb hn
theorem SetAt.below {n : Nat} {w w' : World} {B : Nat} {f : Nat → Bool} (h : SetAt w B f) (hb : Below n w w') (hn : B < n) : SetAt w' B f := Rw.below h hb hn
theorem zeros : Tryd.zeroCells100 = (cellsOf fun _ => false).toArray := by kernel_rfl
theorem SetAt.zero (w : World) : SetAt (w.alloc (.cells Tryd.zeroCells100 100)) w.heap.size fun _ => false := by
  rw [zeros]
  exact Rw.new w _ _

theorem set71 (B : Nat) (f : Nat → Bool) (x : UInt8) (w : World) (h : SetAt w B f) :
    Calls Tryd.prog 71 #[.pointer (some ⟨B, 0, none⟩), .int .u8 x.toNat] w fun e w' => e = .returned (.tuple #[]) ∧ w.setCell ⟨B, x.toNat, none⟩ (.bool true) = w' := by
  have c := h.get x.toNat_lt
  have z := h.fz x.toNat
  have hx := x.toNat_lt
  clear h
  go_enter Tryd.func71, Tryd.ntmps71
  go_wp2
  go_end0
  exact ⟨rfl, rfl⟩
theorem get33 (B : Nat) (f : Nat → Bool) (x : UInt8) (w : World) (h : SetAt w B f) :
    Calls Tryd.prog 33 #[.pointer (some ⟨B, 0, none⟩), .int .u8 x.toNat] w fun e w' => e = .returned (.bool (f x.toNat)) ∧ w = w' := by
  have c := h.get x.toNat_lt
  have hx := x.toNat_lt
  clear h
  go_enter Tryd.func33, Tryd.ntmps33
  go_wp2
  go_ret
  exact ⟨rfl, rfl⟩

/-- A list has a byte. -/
def hasB (l : List UInt8) (i : Nat) : Bool := l.any fun c => c.toNat == i
theorem hasB_snoc (l : List UInt8) (c : UInt8) (i : Nat) : hasB (l ++ [c]) i = (hasB l i || c.toNat == i) := by simp [hasB]
theorem new63 (s : ByteArray) (hs : s.size ≤ 1000) (w : World) :
    Calls Tryd.prog 63 #[.string s] w fun e w' => e = .returned (.pointer (some ⟨w.heap.size, 0, none⟩)) ∧ SetAt w' w.heap.size (hasB s.data.toList) ∧ Below w.heap.size w w' := by
  have hz := SetAt.zero w
  have HZ := Lib.hid hz
  clear hz
  go_enter Tryd.func63, Tryd.ntmps63
  go_wp2_with fail
  go_loopw [4] (fun i wr => ∃ k : Nat, k ≤ s.size ∧ i = .int .i64 k ∧ Hid (SetAt wr w.heap.size (hasB (s.data.toList.take k)) ∧ Below w.heap.size w wr)) (fun i _ => s.size - (intOf i).toNat)
  case atStart => exact ⟨0, Nat.zero_le _, rfl, Lib.hid ⟨HZ.out.congr (fun j _ => by simp [hasB]), (Below.refl _ w).alloc (Nat.le_refl _) _⟩⟩
  case round =>
    obtain ⟨k, hk, rfl, hI⟩ := hrel
    by_cases hlt : k < s.size
    · have hpl : k < s.data.toList.length := by simpa using hlt
      have htk : s.data.toList.take (k + 1) = s.data.toList.take k ++ [s[k]'hlt] := by
        rw [List.take_succ_eq_append_getElem hpl]
        rfl
      obtain ⟨c, hc⟩ : ∃ c, s[k]'hlt = c := ⟨_, rfl⟩
      rw [hc] at htk
      have HT := Lib.hid htk
      clear htk
      have hkl : (k : Int) < (s.size : Int) := by omega
      go_wp2_with fail
      refine (set71 _ _ c _ hI.out.1).mono ?_
      rintro e w2 ⟨rfl, hw2⟩
      have h2 := hI.out.1.put c.toNat true
      have b2 := hI.out.2.setCell (p := ⟨w.heap.size, c.toNat, none⟩) (Nat.le_refl _) (.bool true)
      rw [hw2] at h2 b2
      have H2 := Lib.hid h2
      have B2 := Lib.hid b2
      clear hw2 h2 b2
      go_wp2
      go_roundw
      case rel =>
        refine ⟨k + 1, by omega, by go_num, Lib.hid ⟨H2.out.congr (fun j _ => ?_), B2.out⟩⟩
        rw [HT.out, hasB_snoc]
        by_cases hj : j = c.toNat
        · subst hj; simp
        · have : (c.toNat == j) = false := by rw [beq_eq_false_iff_ne]; exact fun e => hj e.symm
          simp [hj, this]
      case measure => simp [intOf]; omega
    · have hkl : ¬ (k : Int) < (s.size : Int) := by omega
      have hks : k = s.size := by omega
      have htk : s.data.toList.take k = s.data.toList := List.take_of_length_le (by simp; omega)
      have HT := Lib.hid htk
      clear htk hks
      go_wp2
      go_ret
      rw [← HT.out]
      exact ⟨rfl, hI.out.1, hI.out.2⟩

theorem range66 (w : World) :
    Calls Tryd.prog 66 #[.int .u8 0, .int .u8 31] w fun e w' => e = .returned (.pointer (some ⟨w.heap.size, 0, none⟩)) ∧ SetAt w' w.heap.size (fun i => decide (i < 32)) ∧ Below w.heap.size w w' := by
  have hz := SetAt.zero w
  have HZ := Lib.hid hz
  clear hz
  go_enter Tryd.func66, Tryd.ntmps66
  go_wp2_with fail
  go_loopw [6] (fun i wr => ∃ c : UInt8, c.toNat ≤ 32 ∧ i = .int .u8 c.toNat ∧ Hid (SetAt wr w.heap.size (fun i => decide (i < c.toNat)) ∧ Below w.heap.size w wr)) (fun i _ => 32 - (intOf i).toNat)
  case atStart => exact ⟨0, by decide, rfl, Lib.hid ⟨HZ.out.congr (fun j _ => by simp), (Below.refl _ w).alloc (Nat.le_refl _) _⟩⟩
  case round =>
    obtain ⟨c, hc, rfl, hI⟩ := hrel
    by_cases hlt : c.toNat ≤ 31
    · have hl : (c.toNat : Int) ≤ 31 := by omega
      have hc1 : (c + 1).toNat = c.toNat + 1 := by
        rw [UInt8.toNat_add]
        have : (1 : UInt8).toNat = 1 := rfl
        rw [this]
        omega
      have HC := Lib.hid hc1
      clear hc1
      go_wp2_with fail
      refine (set71 _ _ c _ hI.out.1).mono ?_
      rintro e w2 ⟨rfl, hw2⟩
      have h2 := hI.out.1.put c.toNat true
      have b2 := hI.out.2.setCell (p := ⟨w.heap.size, c.toNat, none⟩) (Nat.le_refl _) (.bool true)
      rw [hw2] at h2 b2
      have H2 := Lib.hid h2
      have B2 := Lib.hid b2
      clear hw2 h2 b2
      go_wp2
      go_roundw
      case rel =>
        refine ⟨c + 1, by rw [HC.out]; omega, by rw [HC.out]; go_num, Lib.hid ⟨H2.out.congr (fun j _ => ?_), B2.out⟩⟩
        rw [HC.out]
        by_cases hj : j = c.toNat
        · subst hj; simp
        · simp [hj]; omega
      case measure => simp [intOf]; omega
    · have hl : ¬ (c.toNat : Int) ≤ 31 := by omega
      go_wp2
      go_ret
      refine ⟨rfl, hI.out.1.congr (fun j _ => ?_), hI.out.2⟩
      have : c.toNat = 32 := by omega
      rw [this]
end Go.Proofs.YtlcbcgillekphaaDoor.set
