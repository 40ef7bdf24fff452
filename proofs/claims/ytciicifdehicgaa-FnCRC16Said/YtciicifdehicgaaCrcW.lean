/-
  Proved: the contracts of radix.CRC16 (by its table) and of the reference's CRC16 (bit by bit), over a slice of bytes in memory.
  Conditions: the slice's cells are the bytes of a list.
-/
import Derived.Test.YtciicifdehicgaaRows
import Derived.Test.YtciicifdehicgaaCrcN
import Derived.WalkKit
import Derived.ProofKit
import Derived.Outline
import Derived.WalkLawsBesides
import Derived.WalkSpells
import Derived.Lib.Hide
import Derived.Lib.ConvBytes
import Derived.Laws.BitsAllLaws
import Derived.Great.BuildSlice
import Derived.Great.Walk
namespace Go.Proofs.Ytciicifdehicgaa.crc
open Go.RowKit Go.Great
set_option linter.unusedVariables false

def tabI : List Int := tab.map Int.ofNat
def zeros : Array Value := Array.replicate 256 (.int .u16 0)
def tabCells : Array Value := (tabI.map (Value.int .u16)).toArray

theorem setRow_new (w : World) (Z C : Array Value) (t : TypeId) : (w.alloc (.cells Z t)).setRow w.heap.size C = w.alloc (.cells C t) := by
  simp only [World.setRow, World.alloc]
  congr 1
  apply Array.ext_getElem?
  intro i
  rw [Array.getElem?_modify, Array.getElem?_push, Array.getElem?_push]
  by_cases h : w.heap.size = i
  · subst h; simp
  · rw [if_neg h, if_neg (fun e => h e.symm), if_neg (fun e => h e.symm)]

theorem tab_cell : ∀ x : Fin 256, tabCells[x.val]? = some (.int .u16 ((T (BitVec.ofFin x)).toNat : Int)) := by
  intro x
  have h : ∀ x : Fin 256, tab[x.val]? = some (T (BitVec.ofFin x)).toNat := by decide +kernel
  simp [tabCells, tabI, h x]

theorem xor_idx (c : BitVec 16) (b : BitVec 8) : bits .xor .u8 ((c.toNat : Int) / 256) (b.toNat : Int) = ((((c >>> 8).setWidth 8 ^^^ b).toNat : Nat) : Int) := by
  have hc := c.isLt
  have h := u8_xor_nat (c.toNat / 256) b.toNat (by omega) b.isLt
  rw [show ((c.toNat : Int) / 256) = ((c.toNat / 256 : Nat) : Int) from by omega, h]
  rw [BitVec.toNat_xor, BitVec.toNat_setWidth, BitVec.toNat_ushiftRight, Nat.shiftRight_eq_div_pow]
  rw [Nat.mod_eq_of_lt (show c.toNat / 2 ^ 8 < 2 ^ 8 by omega)]
theorem xor_step (c : BitVec 16) (b : BitVec 8) : bits .xor .u16 (IntKind.u16.wrap ((c.toNat : Int) * 256)) (((T ((c >>> 8).setWidth 8 ^^^ b)).toNat : Nat) : Int) = (((stepT c b).toNat : Nat) : Int) := by
  have hc := c.isLt
  have ht := (T ((c >>> 8).setWidth 8 ^^^ b)).isLt
  have h := u16_xor_nat (c.toNat * 256 % 65536) (T ((c >>> 8).setWidth 8 ^^^ b)).toNat (by omega) ht
  rw [IntKind.wrap_u16, show ((c.toNat : Int) * 256 % 65536) = ((c.toNat * 256 % 65536 : Nat) : Int) from by omega, h]
  unfold stepT
  rw [BitVec.toNat_xor, BitVec.toNat_shiftLeft, Nat.shiftLeft_eq]

def crcT (l : List UInt8) : BitVec 16 := l.foldl (fun c b => stepT c b.toBitVec) 0
theorem crcT_snoc (l : List UInt8) (k : Nat) (h : k < l.length) : crcT (l.take (k + 1)) = stepT (crcT (l.take k)) (l.getD k 0).toBitVec := by
  unfold crcT
  rw [List.take_succ_eq_append_getElem h, List.foldl_append]
  simp [List.getD, List.getElem?_eq_getElem h]

theorem radix19 (g cap : Nat) (l : List UInt8) (w : World) (hn : l.length ≤ 140737488351232) (hg : g < w.heap.size)
    (hc : ∀ j, j < l.length → w.cell? ⟨g, j, none⟩ = some (.int .u8 ((l.getD j 0).toNat : Int))) :
    Calls Try.prog 19 #[.slice (some ⟨g, 0, none⟩) l.length cap] w fun e w' => e = .returned (.int .u16 ((crcT l).toNat : Int)) ∧ Below w.heap.size w w' := by
  go_enter Try.func19, Try.ntmps19
  apply wp_seq_k; intro K0 hK0
  apply wp_region_lit
  refine wpList_runTo rfl (some 2) rfl (.int .u16 0) w (by as_aux_lemma => kernel_rfl) ?_
  apply wpList_nil
  refine hK0 _ _ ?_
  clear hK0 K0
  apply wp_seq_k; intro K1 hK1
  apply wp_region_lit
  refine wpList_buildFlatArrTo rfl 57 30 256 _ rfl .u16 tabI (some 8) rfl Try.underlying57 (by as_aux_lemma => kernel_rfl) (by as_aux_lemma => kernel_rfl) (by as_aux_lemma => kernel_rfl) ?_
  refine wpList_runTo rfl (some 3) rfl (.pointer (some ⟨w.heap.size, 0, none⟩)) (w.alloc (.cells zeros 57)) (by as_aux_lemma => kernel_rfl) ?_
  refine wpList_store_rowTo rfl 57 _ _ rfl rfl w.heap.size tabCells rfl rfl 57 zeros (heap_alloc_new _ _) (by as_aux_lemma => kernel_rfl) (by as_aux_lemma => kernel_rfl) (by as_aux_lemma => kernel_rfl) ?_
  apply wpList_nil
  refine hK1 _ _ ?_
  clear hK1 K1
  rw [setRow_new]
  obtain ⟨w1, hw1, hB, hold, htab⟩ : ∃ w1, w1 = w.alloc (.cells tabCells 57) ∧ Below w.heap.size w w1 ∧ (∀ j, j < l.length → w1.cell? ⟨g, j, none⟩ = some (.int .u8 ((l.getD j 0).toNat : Int))) ∧ (∀ x : BitVec 8, w1.cell? ⟨w.heap.size, x.toNat, none⟩ = some (.int .u16 ((T x).toNat : Int))) := by
    have hB : Below w.heap.size w (w.alloc (.cells tabCells 57)) := (Below.refl _ _).alloc (Nat.le_refl _) _
    refine ⟨_, rfl, hB, fun j hj => ?_, fun x => ?_⟩
    · rw [hB.cell (p := ⟨g, j, none⟩) hg]; exact hc j hj
    · rw [cell_of_row _ _ _ _ _ _ (heap_alloc_new _ _)]; exact tab_cell x.toFin
  rw [← hw1]
  clear hw1
  have HB := Lib.hid hB
  clear hB hc
  generalize (List.map (Value.int IntKind.u16) tabI).toArray = tc
  go_wp2
  go_loop [4, 11] (fun v i => ∃ k : Nat, k ≤ l.length ∧ i = .int .i64 k ∧ v = .int .u16 ((crcT (l.take k)).toNat : Int)) (fun _ i => l.length - (intOf i).toNat)
  case atStart => exact ⟨0, Nat.zero_le _, rfl, rfl⟩
  case round =>
    obtain ⟨k, hk, rfl, rfl⟩ := hrel
    rename w1 = w1 => hq
    clear hq
    by_cases hlt : k < l.length
    · have h1 : w1.cell? ⟨g, k, none⟩ = some (.int .u8 ((l.getD k 0).toBitVec.toNat : Int)) := hold k hlt
      have HS := Lib.hid (crcT_snoc l k hlt)
      clear hold
      generalize hc0 : crcT (l.take k) = c at *
      generalize (l.getD k 0).toBitVec = b at *
      clear hc0
      have hx := xor_idx c b
      have hs := Lib.hid (xor_step c b)
      have hcell := htab ((c >>> 8).setWidth 8 ^^^ b)
      have b1 : (c.toNat : Int) ≤ 65535 := by have := c.isLt; omega
      have b2 : (b.toNat : Int) ≤ 255 := by have := b.isLt; omega
      have b3 : (((c >>> 8).setWidth 8 ^^^ b).toNat : Int) < 256 := by have := ((c >>> 8).setWidth 8 ^^^ b).isLt; omega
      clear htab
      generalize (c >>> 8).setWidth 8 ^^^ b = x at *
      have b4 : ((T x).toNat : Int) ≤ 65535 := by have := (T x).isLt; omega
      generalize (T x).toNat = t at *
      generalize x.toNat = i at *
      go_wp2
      go_round
      case rel => exact ⟨k + 1, by omega, by go_num, by rw [HS.out, ← hs.out]⟩
      case measure => simp [intOf]; omega
    · have : k = l.length := by omega
      subst this
      clear hold htab
      go_wp2
      go_ret
      exact ⟨by simp, HB.out⟩

theorem bit_test (c : BitVec 16) (b : BitVec 8) (i : Nat) : (bits .and .u16 ((c.toNat : Int) / 32768) 1 != IntKind.u16.wrap (bits .and .u8 ((b.toNat : Int) / 2 ^ i) 1)) = (c.getLsbD 15 != b.getLsbD i) := by
  have hc := c.isLt
  have hb := b.isLt
  have h1 := u16_and_nat (c.toNat / 32768) 1 (by omega) (by decide)
  have hd : b.toNat / 2 ^ i < 256 := Nat.lt_of_le_of_lt (Nat.div_le_self _ _) hb
  have h2 := u8_and_nat (b.toNat / 2 ^ i) 1 hd (by decide)
  rw [Nat.and_one_is_mod] at h1 h2
  have e1 : ((c.toNat : Int) / 32768) = ((c.toNat / 32768 : Nat) : Int) := by omega
  have e2 : ((b.toNat : Int) / 2 ^ i) = ((b.toNat / 2 ^ i : Nat) : Int) := by simp
  have t1 : c.getLsbD 15 = decide (c.toNat / 32768 % 2 = 1) := by rw [BitVec.getLsbD, Nat.testBit_eq_decide_div_mod_eq]
  have t2 : b.getLsbD i = decide (b.toNat / 2 ^ i % 2 = 1) := by rw [BitVec.getLsbD, Nat.testBit_eq_decide_div_mod_eq]
  have e3 : ((1 : Nat) : Int) = 1 := rfl
  rw [e3] at h1 h2
  rw [e1, e2, h1, h2, t1, t2, IntKind.wrap_u16]
  have hy : b.toNat / 2 ^ i % 2 < 2 := Nat.mod_lt _ (by decide)
  have hx : c.toNat / 32768 % 2 < 2 := Nat.mod_lt _ (by decide)
  clear h1 h2 t1 t2 e1 e2 hd
  generalize c.toNat / 32768 % 2 = x at *
  generalize b.toNat / 2 ^ i % 2 = y at *
  obtain rfl | rfl : x = 0 ∨ x = 1 := by omega
  all_goals obtain rfl | rfl : y = 0 ∨ y = 1 := by omega
  all_goals decide
theorem bit_yes (c : BitVec 16) (b : BitVec 8) (i : Nat) (h : (bits .and .u16 ((c.toNat : Int) / 32768) 1 != IntKind.u16.wrap (bits .and .u8 ((b.toNat : Int) / 2 ^ i) 1)) = true) :
    bits .xor .u16 (IntKind.u16.wrap ((c.toNat : Int) * 2)) 4129 = (((step1 c b i).toNat : Nat) : Int) := by
  rw [bit_test] at h
  have hc := c.isLt
  have h2 := u16_xor_nat (c.toNat * 2 % 65536) 4129 (by omega) (by decide)
  have e3 : ((4129 : Nat) : Int) = 4129 := rfl
  rw [e3] at h2
  rw [IntKind.wrap_u16, show ((c.toNat : Int) * 2 % 65536) = ((c.toNat * 2 % 65536 : Nat) : Int) from by omega, h2]
  unfold step1
  rw [h, if_pos rfl, BitVec.toNat_xor, BitVec.toNat_shiftLeft, Nat.shiftLeft_eq]
  rfl
theorem bit_no (c : BitVec 16) (b : BitVec 8) (i : Nat) (h : (bits .and .u16 ((c.toNat : Int) / 32768) 1 != IntKind.u16.wrap (bits .and .u8 ((b.toNat : Int) / 2 ^ i) 1)) = false) :
    IntKind.u16.wrap ((c.toNat : Int) * 2) = (((step1 c b i).toNat : Nat) : Int) := by
  rw [bit_test] at h
  have hc := c.isLt
  rw [IntKind.wrap_u16, show ((c.toNat : Int) * 2 % 65536) = ((c.toNat * 2 % 65536 : Nat) : Int) from by omega]
  unfold step1
  rw [h, if_neg (by simp), BitVec.toNat_xor, BitVec.toNat_shiftLeft, Nat.shiftLeft_eq]
  simp
def crcB (l : List UInt8) : BitVec 16 := l.foldl (fun c b => bitsB c b.toBitVec 8) 0
theorem crcB_snoc (l : List UInt8) (k : Nat) (h : k < l.length) : crcB (l.take (k + 1)) = bitsB (crcB (l.take k)) (l.getD k 0).toBitVec 8 := by
  unfold crcB
  rw [List.take_succ_eq_append_getElem h, List.foldl_append]
  simp [List.getD, List.getElem?_eq_getElem h]

theorem spec11 (g cap : Nat) (l : List UInt8) (w : World) (hn : l.length ≤ 140737488351232)
    (hold : ∀ j, j < l.length → w.cell? ⟨g, j, none⟩ = some (.int .u8 ((l.getD j 0).toNat : Int))) :
    Calls Try.prog 11 #[.slice (some ⟨g, 0, none⟩) l.length cap] w fun e w' => e = .returned (.int .u16 ((crcB l).toNat : Int)) ∧ w = w' := by
  go_enter Try.func11, Try.ntmps11
  go_wp2
  go_loop [3, 10] (fun v i => ∃ k : Nat, k ≤ l.length ∧ i = .int .i64 k ∧ v = .int .u16 ((crcB (l.take k)).toNat : Int)) (fun _ i => l.length - (intOf i).toNat)
  case atStart => exact ⟨0, Nat.zero_le _, rfl, rfl⟩
  case round =>
    obtain ⟨k, hk, rfl, rfl⟩ := hrel
    by_cases hlt : k < l.length
    · have h1 : w.cell? ⟨g, k, none⟩ = some (.int .u8 ((l.getD k 0).toBitVec.toNat : Int)) := hold k hlt
      have HS := Lib.hid (crcB_snoc l k hlt)
      clear hold
      generalize hc0 : crcB (l.take k) = c at *
      generalize (l.getD k 0).toBitVec = b at *
      clear hc0
      have b2 : (b.toNat : Int) ≤ 255 := by have := b.isLt; omega
      go_wp2
      go_loop [3, 6] (fun v i => ∃ m : Nat, m ≤ 8 ∧ i = .int .i64 (7 - (m : Int)) ∧ v = .int .u16 ((bitsB c b m).toNat : Int)) (fun _ i => (intOf i + 1).toNat)
      case atStart => exact ⟨0, Nat.zero_le _, rfl, rfl⟩
      case round =>
        obtain ⟨m, hm, rfl, rfl⟩ := hrel
        by_cases h8 : m < 8
        · have b1 : ((bitsB c b m).toNat : Int) ≤ 65535 := by have := (bitsB c b m).isLt; omega
          go_wp2
          · go_round
            case rel => exact ⟨m + 1, by omega, by go_num, by rw [bit_yes _ _ _ (by assumption)]; rfl⟩
            case measure => simp [intOf]; omega
          · go_round
            case rel => exact ⟨m + 1, by omega, by go_num, by rw [bit_no _ _ _ (by assumption)]; rfl⟩
            case measure => simp [intOf]; omega
        · have : m = 8 := by omega
          subst this
          go_wp2
          go_round
          case rel => exact ⟨k + 1, by omega, by go_num, by rw [HS.out]⟩
          case measure => simp [intOf]; omega
    · have : k = l.length := by omega
      subst this
      clear hold
      go_wp2
      go_ret
      exact ⟨by simp, rfl⟩
end Go.Proofs.Ytciicifdehicgaa.crc
