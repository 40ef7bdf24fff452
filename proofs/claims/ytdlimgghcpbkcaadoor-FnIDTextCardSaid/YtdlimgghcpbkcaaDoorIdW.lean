/-
  Proved: the contracts of (ID).Text, of (StreamEntryID).String and impl.IDText, and of spec.BlobWire.
  Conditions: numbers of 64 bits; the table of the powers of ten reads as its initialiser lays it.
-/
import Derived.Test.YtdlimgghcpbkcaaDoorIdD
namespace Go.Proofs.YtdlimgghcpbkcaaDoor.ids
open Go.RowKit Mem
set_option linter.unusedVariables false

def idStr (t q : Nat) : ByteArray := ⟨(idText t q).toArray⟩
theorem string25 (t q : Nat) (ht : t < 18446744073709551616) (hq : q < 18446744073709551616) (w : World) (hpow : Pow w) :
    Calls Tryd.prog 25 #[.agg #[.int .u64 t, .int .u64 q]] w fun e w' => e = .returned (.string (idStr t q)) ∧ Below w.heap.size w w' := by
  obtain ⟨W1, hW1⟩ : ∃ W1, w.alloc (.cells #[.int .u64 t, .int .u64 q] 62) = W1 := ⟨_, rfl⟩
  have hw1 : But [] w W1 := hW1 ▸ (But.refl _ _).alloc _
  have hh : W1.heap[w.heap.size]? = some (.cells #[.int .u64 t, .int .u64 q] 62 (0, 0)) := hW1 ▸ heap_alloc_new w _
  have c0 : W1.cell? ⟨w.heap.size, 0, none⟩ = some (.int .u64 t) := cell_of_row _ _ 0 _ _ _ hh
  have c1 : W1.cell? ⟨w.heap.size, 1, none⟩ = some (.int .u64 q) := cell_of_row _ _ 1 _ _ _ hh
  have HC := Lib.hid (bytes30 w.heap.size t q ht hq W1 c0 c1 (hpow.but hw1 (fun g _ => by simp)))
  have HB := Lib.hid hw1
  clear hh c0 c1 hw1
  go_enter Tryd.func25, Tryd.ntmps25
  go_wp2_with fail
  refine HC.out.mono ?_
  rintro e w2 ⟨v, rfl, ho, hb⟩
  have hcv := own_str ho
  have HB2 := Lib.hid hb
  clear ho hb
  go_wp2
  go_ret
  exact ⟨rfl, HB.out.toBelow.trans (HB2.out.mono HB.out.size)⟩
theorem text10 (t q : Nat) (ht : t < 18446744073709551616) (hq : q < 18446744073709551616) (w : World) (hpow : Pow w) :
    Calls Tryd.prog 10 #[.agg #[.int .u64 t, .int .u64 q]] w fun e w' => e = .returned (.string (idStr t q)) ∧ Below w.heap.size w w' := by
  have hw1 : But [] w (w.alloc (.cells #[.int .u64 t, .int .u64 q] 31)) := (But.refl _ _).alloc _
  have HC := Lib.hid (string25 t q ht hq _ (hpow.but hw1 (fun g _ => by simp)))
  have HB := Lib.hid hw1
  clear hw1
  go_enter Tryd.func10, Tryd.ntmps10
  go_wp2_with fail
  refine HC.out.mono ?_
  rintro e w2 ⟨rfl, hb⟩
  have HB2 := Lib.hid hb
  clear hb
  go_wp2
  go_ret
  exact ⟨rfl, HB.out.toBelow.trans (HB2.out.mono HB.out.size)⟩

/-- What stays over the calls of a region. -/
structure Lo (w : World) (wx : World) : Prop where
  below : Below w.heap.size w wx
  lt : w.heap.size < wx.heap.size
theorem lo_next {w a b : World} {v0 v1 : Value} (hb : Below a.heap.size a b) (h : a.cell? ⟨w.heap.size, 0, none⟩ = some v0 ∧ a.cell? ⟨w.heap.size, 1, none⟩ = some v1 ∧ Lo w a) :
    b.cell? ⟨w.heap.size, 0, none⟩ = some v0 ∧ b.cell? ⟨w.heap.size, 1, none⟩ = some v1 ∧ Lo w b :=
  ⟨(hb.cell (p := ⟨w.heap.size, 0, none⟩) h.2.2.lt).trans h.1, (hb.cell (p := ⟨w.heap.size, 1, none⟩) h.2.2.lt).trans h.2.1, h.2.2.below.trans (hb.mono (Nat.le_of_lt h.2.2.lt)), Nat.lt_of_lt_of_le h.2.2.lt hb.size⟩

theorem text8 (t q : Nat) (ht : t < 18446744073709551616) (hq : q < 18446744073709551616) (w : World) :
    Calls Tryd.prog 8 #[.agg #[.int .u64 t, .int .u64 q]] w fun e w' => e = .returned (.string (idStr t q)) ∧ Below w.heap.size w w' := by
  obtain ⟨W1, hW1⟩ : ∃ W1, w.alloc (.cells #[.int .u64 t, .int .u64 q] 32) = W1 := ⟨_, rfl⟩
  have hw1 : Below w.heap.size w W1 := hW1 ▸ ((But.refl [] _).alloc _).toBelow
  have hh : W1.heap[w.heap.size]? = some (.cells #[.int .u64 t, .int .u64 q] 32 (0, 0)) := hW1 ▸ heap_alloc_new w _
  have hz : W1.heap.size = w.heap.size + 1 := by rw [← hW1]; simp
  have HH := Lib.hid hh
  have HB := Lib.hid hw1
  have HZ := Lib.hid hz
  clear hh hw1 hz
  go_enter Tryd.func8, Tryd.ntmps8
  go_wp2_with fail
  have l1 := dec_len t ht
  have l2 := dec_len q hq
  have c0 : W1.cell? ⟨w.heap.size, 0, none⟩ = some (.int .u64 t) := cell_of_row _ _ 0 _ _ _ HH.out
  have c1 : W1.cell? ⟨w.heap.size, 1, none⟩ = some (.int .u64 q) := cell_of_row _ _ 1 _ _ _ HH.out
  have hlt : w.heap.size < W1.heap.size := by rw [HZ.out]; omega
  have D1 := Lib.hid (digits20 t ht)
  have D2 := Lib.hid (digits20 q hq)
  have he : (⟨(Lib.decDigits t).toArray⟩ : ByteArray) ++ ⟨#[45]⟩ ++ ⟨(Lib.decDigits q).toArray⟩ = idStr t q := by
    apply ByteArray.ext
    apply Array.toList_inj.1
    simp [idStr, idText]
  have hs1 : (⟨(Lib.decDigits t).toArray⟩ : ByteArray).size = (Lib.decDigits t).length := by simp [ByteArray.size]
  have hs2 : (⟨(Lib.decDigits q).toArray⟩ : ByteArray).size = (Lib.decDigits q).length := by simp [ByteArray.size]
  have HE := Lib.hid he
  clear he
  generalize (⟨(Lib.decDigits t).toArray⟩ : ByteArray) = x at *
  generalize (⟨(Lib.decDigits q).toArray⟩ : ByteArray) = y at *
  have hxy : (x ++ ⟨#[45]⟩).size = x.size + 1 := by simp [ByteArray.size_append]; rfl
  have g1 : ¬ 9223372036854775807 < (Lib.decDigits t).length + 1 := by omega
  have g2 : ¬ 9223372036854775807 < (Lib.decDigits t).length + 1 + (Lib.decDigits q).length := by omega
  have hS0 : W1.drew.cell? ⟨w.heap.size, 0, none⟩ = some (.int .u64 t) ∧ W1.drew.cell? ⟨w.heap.size, 1, none⟩ = some (.int .u64 q) ∧ Lo w W1.drew := ⟨c0, c1, HB.out.drew, hlt⟩
  go_region_held3 (fun wx => wx.cell? ⟨w.heap.size, 0, none⟩ = some (.int .u64 t) ∧ wx.cell? ⟨w.heap.size, 1, none⟩ = some (.int .u64 q) ∧ Lo w wx) (first | assumption | exact hS0 | exact hS0.1 | exact hS0.2.1 | exact hS0.2.2)
    (first
    | (go_at_call 20; with_reducible refine (D1.out _).mono ?_; rintro e W2 ⟨rfl, hb2⟩; have hS2 := lo_next hb2 (by assumption))
    | (go_at_call 20; with_reducible refine (D2.out _).mono ?_; rintro e W2 ⟨rfl, hb2⟩; have hS2 := lo_next hb2 (by assumption)))
  all_goals
    go_wp2
    go_ret
    exact ⟨by rw [← HE.out]; rfl, hS2.2.2.below⟩

def end2 : List UInt8 := [13, 10]
def blobText (k : UInt8) (l : List UInt8) : List UInt8 := [k] ++ Lib.decDigits l.length ++ end2 ++ l ++ end2
theorem conv_at (wx : World) (A : Nat) (h : wx.heap[A]? = some (.cells #[.int .u8 36] 5 (0, 0))) : (convert 45 9 (.slice (some ⟨A, 0, none⟩) 1 1)).run Tryd.prog wx = .ok (.string ⟨#[36]⟩) wx :=
  conv_str wx 45 5 9 Tryd.underlying45 Tryd.underlying5 Tryd.underlying9 A 0 1 ⟨#[36]⟩ (fun j hj => by
    have : j = 0 := by simp [ByteArray.size] at hj; omega
    subst this
    exact cell_of_row _ _ 0 _ _ _ h)
theorem conv_lit (W : World) : (convert 45 9 (.slice (some ⟨W.heap.size, 0, none⟩) 1 1)).run Tryd.prog (W.alloc (.cells #[.int .u8 36] 5)) = .ok (.string ⟨#[36]⟩) (W.alloc (.cells #[.int .u8 36] 5)) :=
  conv_at _ _ (heap_alloc_new W _)
theorem conv_keep {W W2 : World} (hb : Below (W.alloc (.cells #[.int .u8 36] 5)).heap.size (W.alloc (.cells #[.int .u8 36] 5)) W2) :
    (convert 45 9 (.slice (some ⟨W.heap.size, 0, none⟩) 1 1)).run Tryd.prog W2 = .ok (.string ⟨#[36]⟩) W2 :=
  conv_at _ _ ((hb.block _ (by simp)).trans (heap_alloc_new W _))
theorem keep36 {w W2 : World} (hb : Below (w.alloc (.cells #[.int .u8 36] 5)).drew.heap.size (w.alloc (.cells #[.int .u8 36] 5)).drew W2) :
    (convert 45 9 (.slice (some ⟨w.heap.size, 0, none⟩) 1 1)).run Tryd.prog W2 = .ok (.string ⟨#[36]⟩) W2 := by
  have h1 : w.heap.size < (w.alloc (.cells #[.int .u8 36] 5)).drew.heap.size := by
    show w.heap.size < (w.alloc (.cells #[.int .u8 36] 5)).heap.size
    simp
  have h2 : (w.alloc (.cells #[.int .u8 36] 5)).drew.heap[w.heap.size]? = some (.cells #[.int .u8 36] 5 (0, 0)) := heap_alloc_new w _
  exact conv_at _ _ ((hb.block _ h1).trans h2)
theorem blob11 (s : ByteArray) (hs : s.size ≤ 1000) (w : World) :
    Calls Tryd.prog 11 #[.int .u8 36, .string s] w fun e w' => e = .returned (.string ⟨(blobText 36 s.data.toList).toArray⟩) ∧ Below w.heap.size w w' := by
  have hl := dec_len s.size (by omega)
  have hsl : s.data.toList.length = s.size := by simp
  have he : (⟨#[36]⟩ : ByteArray) ++ ⟨(Lib.decDigits s.size).toArray⟩ ++ ⟨#[13, 10]⟩ ++ s ++ ⟨#[13, 10]⟩ = ⟨(blobText 36 s.data.toList).toArray⟩ := by
    apply ByteArray.ext
    apply Array.toList_inj.1
    simp [blobText, end2]
  have hs1 : (⟨(Lib.decDigits s.size).toArray⟩ : ByteArray).size = (Lib.decDigits s.size).length := by show (Lib.decDigits s.size).toArray.size = _; exact List.size_toArray
  have hcl : ∀ W : World, (convert 45 9 (.slice (some ⟨W.heap.size, 0, none⟩) 1 1)).run Tryd.prog (W.alloc (.cells #[.int .u8 36] 5)).drew = .ok (.string ⟨#[36]⟩) (W.alloc (.cells #[.int .u8 36] 5)).drew := fun W => conv_at _ _ (heap_alloc_new W _)
  have hcl0 := conv_lit
  have hwr : IntKind.u64.wrap (s.size : Int) = (s.size : Int) := by rw [IntKind.wrap_u64]; omega
  have g1 : ¬ 9223372036854775807 < 1 + (Lib.decDigits s.size).length := by omega
  have g2 : ¬ 9223372036854775807 < 1 + (Lib.decDigits s.size).length + 2 := by omega
  have g3 : ¬ 9223372036854775807 < 1 + (Lib.decDigits s.size).length + 2 + s.size := by omega
  have g4 : ¬ 9223372036854775807 < 1 + (Lib.decDigits s.size).length + 2 + s.size + 2 := by omega
  have D1 := Lib.hid (digits20 s.size (by omega))
  have HE := Lib.hid he
  clear he
  generalize (⟨(Lib.decDigits s.size).toArray⟩ : ByteArray) = x at *
  generalize (Lib.decDigits s.size).length = n at *
  clear hsl
  go_enter Tryd.func11, Tryd.ntmps11
  go_wp2_with fail
  go_region_law (first
    | (go_simp; go_at_call 20; with_reducible refine (D1.out _).mono ?_; rintro e W2 ⟨rfl, hb2⟩; try (have f2 := keep36 hb2)))
  all_goals
    go_wp2
    go_ret
    refine ⟨by rw [← HE.out]; rfl, ?_⟩
    first
    | exact ((Below.refl _ w).alloc (Nat.le_refl _) _).drew.trans (hb2.mono (by simp))
    | exact ((Below.refl _ w).drew.trans hb2).alloc hb2.size _
    | exact ((Below.refl _ w).drew.trans hb2)
end Go.Proofs.YtdlimgghcpbkcaaDoor.ids
