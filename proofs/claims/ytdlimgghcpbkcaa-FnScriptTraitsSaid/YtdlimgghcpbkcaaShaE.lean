/-
  Proved: the contracts of sha1's bePutUint32 and bePutUint64, of (*digest).Reset and of New.
  Conditions: the slices lie in a row of bytes that is known whole.
-/
import Derived.Test.YtdlimgghcpbkcaaShaW
namespace Go.Proofs.Ytdlimgghcpbkcaa.sha
open Go.RowKit Mem Go.Great
set_option linter.unusedVariables false

/-- A block that is a row of bytes. -/
def BRow (w : World) (g : Nat) (T : TypeId) (l : List UInt8) : Prop := w.heap[g]? = some (.cells (Lib.byteCells l).toArray T (0, 0))
theorem BRow.lt {w : World} {g : Nat} {T : TypeId} {l : List UInt8} (h : BRow w g T l) : g < w.heap.size := (Array.getElem?_eq_some_iff.1 h).1
theorem BRow.cell {w : World} {g : Nat} {T : TypeId} {l : List UInt8} (h : BRow w g T l) {j : Nat} (hj : j < l.length) : w.cell? ⟨g, j, none⟩ = some (.int .u8 ((l.getD j 0).toNat : Int)) := by
  rw [cell_of_row _ _ j _ _ _ h]
  simp [Lib.byteCells, hj]
theorem BRow.fz {w : World} {g : Nat} {T : TypeId} {l : List UInt8} (h : BRow w g T l) (j : Nat) : w.frozen? ⟨g, j, none⟩ = false := frozen_of_row _ _ j _ _ h
theorem BRow.old {w w' : World} {g : Nat} {T : TypeId} {l : List UInt8} (h : BRow w g T l) {S : List Nat} (b : But S w w') (hk : g ∉ S) : BRow w' g T l := b.heapAt h hk
theorem set_splice {l q : List UInt8} {o : Nat} (b : UInt8) (h : o + q.length < l.length) : (splice l o q).set (o + q.length) b = splice l o (q ++ [b]) := by
  have h1 : (l.take o).length = o := by rw [List.length_take]; omega
  unfold splice
  rw [List.set_append_right _ _ (by omega), h1, Nat.add_sub_cancel_left, List.set_append_right _ _ (by omega), Nat.sub_self, List.append_assoc]
  congr 2
  rw [List.drop_eq_getElem_cons h]
  simp [Nat.add_assoc]
theorem BRow.put {w : World} {g o : Nat} {T : TypeId} {l q : List UInt8} (h : BRow w g T (splice l o q)) (b : UInt8) (hl : o + q.length < l.length) : BRow (w.setCell ⟨g, o + q.length, none⟩ (.int .u8 (b.toNat : Int))) g T (splice l o (q ++ [b])) := by
  unfold BRow
  rw [row_setCell h, ← set_splice b hl]
  simp [Lib.byteCells, List.map_set]
theorem BRow.start {w : World} {g : Nat} {T : TypeId} {l : List UInt8} (h : BRow w g T l) (o : Nat) : BRow w g T (splice l o []) := by simpa [splice] using h

theorem byte_iv (x : BitVec 32) (k : Nat) (m : Int) (hm : m = 2 ^ k) : iv x / m % 256 = ((UInt8.ofNat (x >>> k).toNat).toNat : Int) := by
  have h := iv_shr x k
  rw [Int.fdiv_eq_ediv_of_nonneg _ (Int.le_of_lt (Int.pow_pos (by decide)))] at h
  rw [hm, h, UInt8.toNat_ofNat']
  unfold iv
  omega
theorem byte_nat (n k : Nat) (m : Int) (hm : m = (2 ^ k : Nat)) : (n : Int) / m % 256 = ((UInt8.ofNat (n / 2 ^ k)).toNat : Int) := by
  rw [hm, UInt8.toNat_ofNat']
  omega
set_option maxRecDepth 100000 in
theorem put66 (x : BitVec 32) (g o L cap : Nat) (T : TypeId) (l : List UInt8) (w : World) (h : BRow w g T l) (hL : 4 ≤ L) (hc : L ≤ cap) (ho : o + 4 ≤ l.length) :
    Calls Try.prog 66 #[.slice (some ⟨g, o, none⟩) L cap, .int .u32 (iv x)] w fun e w' => e = .returned (.tuple #[]) ∧ But [g] w w' ∧ BRow w' g T (splice l o (be32 x)) := by
  have l0 := iv_lo x
  have l1 := iv_hi x
  have c0 := h.cell (j := o) (by omega)
  have c1 := h.cell (j := o + 1) (by omega)
  have c2 := h.cell (j := o + 2) (by omega)
  have c3 := h.cell (j := o + 3) (by omega)
  have f0 := h.fz o
  have f1 := h.fz (o + 1)
  have f2 := h.fz (o + 2)
  have f3 := h.fz (o + 3)
  have HR := Lib.hid h
  clear h
  go_enter Try.func66, Try.ntmps66
  go_wp2
  refine ⟨rfl, .tuple #[], by simp [results, Try.results66], rfl, ((((But.refl [g] w).setCell (Or.inl (by simp)) _).setCell (Or.inl (by simp)) _).setCell (Or.inl (by simp)) _).setCell (Or.inl (by simp)) _, ?_⟩
  have e0 : iv x / (16777216 : Int) = ((UInt8.ofNat (x >>> 24).toNat).toNat : Int) := by rw [← byte_iv x 24 16777216 (by decide)]; omega
  rw [e0, byte_iv x 16 65536 (by decide), byte_iv x 8 256 (by decide), show iv x % (256 : Int) = ((UInt8.ofNat x.toNat).toNat : Int) by rw [UInt8.toNat_ofNat']; unfold iv; omega]
  exact ((((HR.out.start o).put _ (by simp; omega)).put _ (by simp; omega)).put _ (by simp; omega)).put _ (by simp; omega)

theorem be64_length (n : Nat) : (be64 n).length = 8 := rfl
set_option maxRecDepth 100000 in
set_option maxHeartbeats 4000000 in
theorem put65 (n : Nat) (hn : n < 18446744073709551616) (g o L cap : Nat) (T : TypeId) (l : List UInt8) (w : World) (h : BRow w g T l) (hL : 8 ≤ L) (hc : L ≤ cap) (ho : o + 8 ≤ l.length) :
    Calls Try.prog 65 #[.slice (some ⟨g, o, none⟩) L cap, .int .u64 (n : Int)] w fun e w' => e = .returned (.tuple #[]) ∧ But [g] w w' ∧ BRow w' g T (splice l o (be64 n)) := by
  have c7 := h.cell (j := o + 7) (by omega)
  have HR := Lib.hid h
  clear h
  go_enter Try.func65, Try.ntmps65
  go_wp2
  clear c7
  go_loopw [4] (fun i wr => ∃ t : Nat, t ≤ 8 ∧ i = .int .i64 t ∧ Hid (But [g] w wr ∧ BRow wr g T (splice l o ((be64 n).take t)))) (fun i _ => 8 - (intOf i).toNat)
  case atStart => exact ⟨0, by omega, rfl, Lib.hid ⟨But.refl _ _, HR.out.start o⟩⟩
  case round =>
    obtain ⟨t, ht, rfl, J⟩ := hrel
    by_cases hlt : t < 8
    · have hlen : (splice l o ((be64 n).take t)).length = l.length := length_splice _ _ _ (by rw [List.length_take, be64_length]; omega)
      have c := J.out.2.cell (j := o + t) (by rw [hlen]; omega)
      have f := J.out.2.fz (o + t)
      clear hlen
      obtain ⟨y, hy⟩ : ∃ y, (splice l o ((be64 n).take t)).getD (o + t) 0 = y := ⟨_, rfl⟩
      rw [hy] at c
      clear hy
      obtain rfl | rfl | rfl | rfl | rfl | rfl | rfl | rfl : t = 0 ∨ t = 1 ∨ t = 2 ∨ t = 3 ∨ t = 4 ∨ t = 5 ∨ t = 6 ∨ t = 7 := by omega
      · simp only [Nat.add_zero] at c f
        go_wp2
        go_roundw
        case rel =>
          refine ⟨1, by omega, by go_num, Lib.hid ⟨J.out.1.setCell (Or.inl (by simp)) _, ?_⟩⟩
          have R := J.out.2.put (o := o) (UInt8.ofNat (n / 2 ^ 56)) (by rw [List.length_take, be64_length]; omega)
          rw [show (n : Int) / (72057594037927936 : Int) = ((UInt8.ofNat (n / 2 ^ 56)).toNat : Int) by rw [← byte_nat n 56 72057594037927936 (by decide)]; omega]
          exact R
        case measure => simp [intOf]
      · go_wp2
        go_roundw
        case rel =>
          refine ⟨2, by omega, by go_num, Lib.hid ⟨J.out.1.setCell (Or.inl (by simp)) _, ?_⟩⟩
          have R := J.out.2.put (o := o) (UInt8.ofNat (n / 2 ^ 48)) (by rw [List.length_take, be64_length]; omega)
          rw [byte_nat n 48 281474976710656 (by decide)]
          exact R
        case measure => simp [intOf]
      · go_wp2
        go_roundw
        case rel =>
          refine ⟨3, by omega, by go_num, Lib.hid ⟨J.out.1.setCell (Or.inl (by simp)) _, ?_⟩⟩
          have R := J.out.2.put (o := o) (UInt8.ofNat (n / 2 ^ 40)) (by rw [List.length_take, be64_length]; omega)
          rw [byte_nat n 40 1099511627776 (by decide)]
          exact R
        case measure => simp [intOf]
      · go_wp2
        go_roundw
        case rel =>
          refine ⟨4, by omega, by go_num, Lib.hid ⟨J.out.1.setCell (Or.inl (by simp)) _, ?_⟩⟩
          have R := J.out.2.put (o := o) (UInt8.ofNat (n / 2 ^ 32)) (by rw [List.length_take, be64_length]; omega)
          rw [byte_nat n 32 4294967296 (by decide)]
          exact R
        case measure => simp [intOf]
      · go_wp2
        go_roundw
        case rel =>
          refine ⟨5, by omega, by go_num, Lib.hid ⟨J.out.1.setCell (Or.inl (by simp)) _, ?_⟩⟩
          have R := J.out.2.put (o := o) (UInt8.ofNat (n / 2 ^ 24)) (by rw [List.length_take, be64_length]; omega)
          rw [byte_nat n 24 16777216 (by decide)]
          exact R
        case measure => simp [intOf]
      · go_wp2
        go_roundw
        case rel =>
          refine ⟨6, by omega, by go_num, Lib.hid ⟨J.out.1.setCell (Or.inl (by simp)) _, ?_⟩⟩
          have R := J.out.2.put (o := o) (UInt8.ofNat (n / 2 ^ 16)) (by rw [List.length_take, be64_length]; omega)
          rw [byte_nat n 16 65536 (by decide)]
          exact R
        case measure => simp [intOf]
      · go_wp2
        go_roundw
        case rel =>
          refine ⟨7, by omega, by go_num, Lib.hid ⟨J.out.1.setCell (Or.inl (by simp)) _, ?_⟩⟩
          have R := J.out.2.put (o := o) (UInt8.ofNat (n / 2 ^ 8)) (by rw [List.length_take, be64_length]; omega)
          rw [byte_nat n 8 256 (by decide)]
          exact R
        case measure => simp [intOf]
      · go_wp2
        go_roundw
        case rel =>
          refine ⟨8, by omega, by go_num, Lib.hid ⟨J.out.1.setCell (Or.inl (by simp)) _, ?_⟩⟩
          have R := J.out.2.put (o := o) (UInt8.ofNat (n / 2 ^ 0)) (by rw [List.length_take, be64_length]; omega)
          rw [show (n : Int) % (256 : Int) = ((UInt8.ofNat (n / 2 ^ 0)).toNat : Int) by rw [← byte_nat n 0 1 (by decide)]; omega]
          rw [Nat.pow_zero, Nat.div_one] at R ⊢
          exact R
        case measure => simp [intOf]
    · obtain rfl : t = 8 := by omega
      go_wp2
      exact ⟨rfl, .tuple #[], by simp [results, Try.results65], rfl, J.out.1, J.out.2⟩

set_option maxRecDepth 100000 in
theorem reset57 (X : Nat) (s : S5) (x : List UInt8) (nx len : Nat) (w : World) (h : Dig w X s x nx len) :
    Calls Try.prog 57 #[.pointer (some ⟨X, 0, none⟩)] w fun e w' => e = .returned (.tuple #[]) ∧ But [X] w w' ∧ Dig w' X init x 0 0 := by
  have c0 := h.word 0 (by omega)
  have c1 := h.word 1 (by omega)
  have c2 := h.word 2 (by omega)
  have c3 := h.word 3 (by omega)
  have c4 := h.word 4 (by omega)
  have c5 := h.cnx
  have c6 := h.clen
  have f0 := h.fz 0
  have f1 := h.fz 1
  have f2 := h.fz 2
  have f3 := h.fz 3
  have f4 := h.fz 4
  have f5 := h.fz 69
  have f6 := h.fz 70
  have HR := Lib.hid h
  clear h
  go_enter Try.func57, Try.ntmps57
  go_wp2
  refine ⟨rfl, .tuple #[], by simp [results, Try.results57], rfl, ((but5 w X _ _ _ _ _).setCell (Or.inl (by simp)) _).setCell (Or.inl (by simp)) _, ?_⟩
  exact ((HR.out.set5 init).setNx 0).setLen 0
end Go.Proofs.Ytdlimgghcpbkcaa.sha
