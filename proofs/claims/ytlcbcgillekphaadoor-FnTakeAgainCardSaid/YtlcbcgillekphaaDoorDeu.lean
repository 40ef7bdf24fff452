/-
  Proved: the contracts of zzCountByte, bytes.LastIndexByte, errors.New, and of the decoder's syntaxErrorf.
  Conditions: a slice of bytes; a decoder in memory.
-/
import Derived.Test.YtlcbcgillekphaaDoorDet
namespace Go.Proofs.YtlcbcgillekphaaDoor.dec
open Go.RowKit Mem rw
set_option linter.unusedVariables false

theorem breaks_snoc (l : List UInt8) (c : UInt8) : dm.breaks (l ++ [c]) = dm.breaks l + (if c = 10 then 1 else 0) := by
  unfold dm.breaks
  rw [List.countP_append]
  by_cases h : c = 10 <;> simp [h]
theorem count34 (a : Option Addr) (c : Nat) (l : List UInt8) (hl : l.length ≤ 5000) (w : World) (h : Bs w a l) :
    Calls Tryd.prog 34 #[.slice a l.length c, .int .u8 10] w fun e w' => e = .returned (.int .i64 (dm.breaks l)) ∧ w = w' := by
  obtain ⟨n, hn⟩ : ∃ n, l.length = n := ⟨_, rfl⟩
  have H := Lib.hid h
  have HN := Lib.hid hn
  have hbl := dm.breaks_le l
  rw [hn] at hl hbl ⊢
  clear h hn
  go_enter Tryd.func34, Tryd.ntmps34
  go_wp2_with fail
  go_loopw [5, 10] (fun v i wr => ∃ k b : Nat, k ≤ n ∧ b ≤ k ∧ v = .int .i64 b ∧ i = .int .i64 k ∧ w = wr ∧ Hid (dm.breaks (l.take k) = b)) (fun _ i _ => n - (intOf i).toNat)
  case atStart => exact ⟨0, 0, by omega, by omega, rfl, rfl, rfl, Lib.hid rfl⟩
  case round =>
    obtain ⟨k, b, hk, hb, rfl, rfl, rfl, HK⟩ := hrel
    by_cases hlt : k < n
    · have hkl : k < l.length := by rw [HN.out]; exact hlt
      obtain ⟨A, off, rfl, hcell⟩ := H.out.get hkl
      obtain ⟨x, hx⟩ : ∃ x, l[k] = x := ⟨_, rfl⟩
      rw [hx] at hcell
      have hs : dm.breaks (l.take (k + 1)) = b + (if x = 10 then 1 else 0) := by
        rw [List.take_succ_eq_append_getElem hkl, breaks_snoc, HK.out, hx]
      have HS := Lib.hid hs
      have hxb := x.toNat_lt
      have hlt' : (k : Int) < (n : Int) := by omega
      clear hs hx
      by_cases h10 : x = 10
      · have hx10 : (x.toNat : Int) = 10 := by rw [h10]; rfl
        have h1 := HS.out
        rw [if_pos h10] at h1
        have H1 := Lib.hid h1
        clear h1 h10
        go_wp2
        go_roundw
        case rel => exact ⟨k + 1, b + 1, by omega, by omega, by go_num, by go_num, by first | rfl | trivial, H1⟩
        case measure => simp [intOf]; omega
      · have hx10 : ¬ (x.toNat : Int) = 10 := by
          intro e
          apply h10
          apply UInt8.toNat_inj.1
          show x.toNat = 10
          omega
        have h1 := HS.out
        rw [if_neg h10] at h1
        have H1 := Lib.hid h1
        clear h1 h10
        go_wp2
        go_roundw
        case rel => exact ⟨k + 1, b, by omega, by omega, rfl, by go_num, by first | rfl | trivial, H1⟩
        case measure => simp [intOf]; omega
    · have hlt' : ¬ (k : Int) < (n : Int) := by omega
      have hf : dm.breaks l = b := by rw [← HK.out, List.take_of_length_le (by rw [HN.out]; omega)]
      have HF := Lib.hid hf
      clear hf hbl
      go_wp2
      go_ret
      rw [HF.out]
      exact ⟨rfl, rfl⟩

/-- The last LF of some bytes: its place and one more; 0: there is none. -/
def lastLF (l : List UInt8) : Nat := l.length - dm.colF l
theorem colF_take (l : List UInt8) (k : Nat) (hk : k < l.length) (h : ∀ j, k < j → (hj : j < l.length) → l[j] ≠ 10) (hc : l[k] = 10) : dm.colF l = l.length - (k + 1) := by
  have e : l = l.take k ++ 10 :: l.drop (k + 1) := by
    have := List.take_append_drop k l
    rw [List.drop_eq_getElem_cons hk, hc] at this
    exact this.symm
  conv => lhs; rw [e]
  rw [dm.colF_last _ _ (fun c hc => by
    obtain ⟨j, hj, rfl⟩ := List.getElem_of_mem hc
    rw [List.getElem_drop]
    exact h _ (by omega) _)]
  simp
theorem lastix70 (a : Option Addr) (c : Nat) (l : List UInt8) (hl : l.length ≤ 5000) (w : World) (h : Bs w a l) :
    Calls Tryd.prog 70 #[.slice a l.length c, .int .u8 10] w fun e w' => e = .returned (.int .i64 ((l.length : Int) - (dm.colF l : Int) - 1)) ∧ w = w' := by
  obtain ⟨n, hn⟩ : ∃ n, l.length = n := ⟨_, rfl⟩
  have H := Lib.hid h
  have HN := Lib.hid hn
  have hcl := dm.colF_le l
  rw [hn] at hl hcl ⊢
  clear h hn
  go_enter Tryd.func70, Tryd.ntmps70
  go_wp2_with fail
  go_loopw [5] (fun i wr => ∃ k : Nat, k ≤ n ∧ i = .int .i64 ((k : Int) - 1) ∧ w = wr ∧ Hid (∀ j, k ≤ j → (hj : j < l.length) → l[j] ≠ 10)) (fun i _ => (intOf i + 1).toNat)
  case atStart => exact ⟨n, by omega, rfl, rfl, Lib.hid (fun j h1 h2 => by have := HN.out; omega)⟩
  case round =>
    obtain ⟨k, hk, rfl, rfl, HK⟩ := hrel
    cases k with
    | zero =>
      have hf : dm.colF l = n := by rw [dm.colF_none l (fun c hc => by obtain ⟨j, hj, rfl⟩ := List.getElem_of_mem hc; exact HK.out j (by omega) hj), HN.out]
      have HF := Lib.hid hf
      clear hf hcl
      go_wp2
      go_ret
      rw [HF.out]
      exact ⟨by rw [show ((n : Int) - (n : Int) - 1) = -1 by omega]; rfl, rfl⟩
    | succ k =>
      have hkl : k < l.length := by rw [HN.out]; exact hk
      obtain ⟨A, off, rfl, hcell⟩ := H.out.get hkl
      obtain ⟨x, hx⟩ : ∃ x, l[k] = x := ⟨_, rfl⟩
      rw [hx] at hcell
      have hxb := x.toNat_lt
      have HX := Lib.hid hx
      have e1 : ((k + 1 : Nat) : Int) - 1 = (k : Int) := by omega
      rw [e1]
      have hk0 : (0 : Int) ≤ (k : Int) := by omega
      have hkn : (k : Int) < (n : Int) := by omega
      clear hx e1
      by_cases h10 : x = 10
      · have hx10 : (x.toNat : Int) = 10 := by rw [h10]; rfl
        have hf : dm.colF l = n - (k + 1) := by rw [colF_take l k hkl (fun j h1 h2 => HK.out j (by omega) h2) (by rw [HX.out, h10]), HN.out]
        have HF := Lib.hid hf
        clear h10 hf hcl
        go_wp2
        go_ret
        rw [HF.out]
        exact ⟨by rw [show ((n : Int) - ((n - (k + 1) : Nat) : Int) - 1) = (k : Int) by omega]; rfl, rfl⟩
      · have hx10 : ¬ (x.toNat : Int) = 10 := by
          intro e
          apply h10
          apply UInt8.toNat_inj.1
          show x.toNat = 10
          omega
        have h1 : ∀ j, k ≤ j → (hj : j < l.length) → l[j] ≠ 10 := fun j h1 h2 => by
          by_cases e : j = k
          · subst e; rw [HX.out]; exact h10
          · exact HK.out j (by omega) h2
        have H1 := Lib.hid h1
        clear h1 h10 hcl
        go_wp2
        go_roundw
        case rel => exact ⟨k, by omega, by go_num, by first | rfl | trivial, H1⟩
        case measure => simp [intOf]
theorem lastix62 (a : Option Addr) (c : Nat) (l : List UInt8) (hl : l.length ≤ 5000) (w : World) (h : Bs w a l) :
    Calls Tryd.prog 62 #[.slice a l.length c, .int .u8 10] w fun e w' => e = .returned (.int .i64 ((l.length : Int) - (dm.colF l : Int) - 1)) ∧ w = w' := by
  have HC := Lib.hid (lastix70 a c l hl w h)
  clear h
  go_enter Tryd.func62, Tryd.ntmps62
  go_wp2_with fail
  refine HC.out.mono ?_
  rintro e w' ⟨rfl, rfl⟩
  go_wp2
  go_ret
  exact ⟨rfl, rfl⟩
theorem new37 (s : ByteArray) (w : World) :
    Calls Tryd.prog 37 #[.string s] w fun e w' => e = .returned (.iface 91 (.pointer (some ⟨w.heap.size, 0, none⟩))) ∧ But [] w w' := by
  have hb : Hid (But [] w (w.alloc (.cells #[.string s] 93))) := Lib.hid ((But.refl [] w).alloc _)
  go_enter Tryd.func37, Tryd.ntmps37
  go_wp2
  go_ret
  exact ⟨rfl, hb.out⟩
end Go.Proofs.YtlcbcgillekphaaDoor.dec
