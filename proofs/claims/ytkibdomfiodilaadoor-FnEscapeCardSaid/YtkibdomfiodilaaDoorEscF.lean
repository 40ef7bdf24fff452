/-
  Proved: the contracts of escapedLen, _escape and appendEscaped, of DoorEscape and DoorEscapedLen, and of impl.Escape and impl.EscapedLen.
  Conditions: which from 0 to 4, texts of at most 5000 bytes.
-/
import Derived.Test.YtkibdomfiodilaaDoorEscE
import Derived.Handy
namespace Go.Proofs.YtkibdomfiodilaaDoor.esc
open Go.RowKit Mem
set_option linter.unusedVariables false

theorem len44 (E : Nat) (k : Int) (s : ByteArray) (hs : s.size ≤ 5000) (w : World) (h : EscAt w E k) :
    Calls Tryd.prog 44 #[.pointer (some ⟨E, 0, none⟩), .string s] w fun e w' => e = .returned (.int .i64 ((esc k s.data.toList).length : Int)) ∧ w = w' := by
  have hstr := h.str
  have hel := escs_len k
  have hes : (⟨(escs k).toArray⟩ : ByteArray).size = (escs k).length := by simp [ByteArray.size]
  have hN := esc_len k s.data.toList
  generalize (esc k s.data.toList).length = N at *
  have HN := Lib.hid hN
  clear h hN
  go_enter Tryd.func44, Tryd.ntmps44
  go_wp2_with fail
  go_loop [5, 6] (fun n i => ∃ j : Nat, j ≤ (escs k).length ∧ i = .int .i64 j ∧ n = .int .i64 ((s.size + more k s.data.toList j : Nat) : Int)) (fun _ i => (escs k).length - (intOf i).toNat)
  case atStart => exact ⟨0, Nat.zero_le _, rfl, by simp [more]⟩
  case round =>
    obtain ⟨j, hj, rfl, rfl⟩ := hrel
    have hml := more_le k s.data.toList j (by omega)
    have hsl : s.data.toList.length = s.size := by simp
    rw [hsl] at hml
    have hml2 : j * s.size ≤ 5 * s.size := Nat.mul_le_mul_right _ (by omega)
    by_cases hlt : j < (escs k).length
    · have hex : (⟨(escs k).toArray⟩ : ByteArray).extract j (j + 1) = ⟨#[(escs k).getD j 0]⟩ := by
        apply ByteArray.ext
        simp only [ByteArray.data_extract]
        apply Array.ext'
        simp only [Array.toList_extract, List.extract_eq_take_drop]
        rw [show j + 1 - j = 1 from by omega]
        have hg : (escs k).getD j 0 = (escs k)[j] := by simp [List.getD, List.getElem?_eq_getElem hlt]
        rw [hg, List.drop_eq_getElem_cons hlt]
        rfl
      have hms : more k s.data.toList (j + 1) = more k s.data.toList j + s.data.toList.count ((escs k).getD j 0) := rfl
      have hcl : s.data.toList.count ((escs k).getD j 0) ≤ s.size := by rw [← hsl]; exact List.count_le_length
      have hcnt := count58 s ((escs k).getD j 0) hs
      generalize (escs k).getD j 0 = c at *
      generalize hm : more k s.data.toList j = m at *
      have HCN := Lib.hid hcnt
      have HMS := Lib.hid hms
      have hle : (j : Int) < ((escs k).length : Int) := by omega
      clear hcnt hms hm hsl
      go_wp2_with fail
      refine (HCN.out _).mono ?_
      rintro e w1 ⟨rfl, rfl⟩
      generalize s.data.toList.count c = q at *
      go_wp2
      go_round
      case rel => exact ⟨j + 1, by omega, by go_num, by rw [HMS.out]; go_num⟩
      case measure => simp [intOf]; omega
    · have he : j = (escs k).length := by omega
      have hgt : ¬ ((j : Int) < ((escs k).length : Int)) := by omega
      have hfin : N = s.size + more k s.data.toList j := by rw [HN.out, he, hsl]
      have HFIN := Lib.hid hfin
      clear hfin hsl HN
      generalize more k s.data.toList j = m at *
      go_wp2
      go_ret
      exact ⟨by rw [HFIN.out]; go_num, rfl⟩

theorem esc_snoc (k : Int) (l : List UInt8) (c : UInt8) : esc k (l ++ [c]) = esc k l ++ escB k c := by rw [esc_append]; simp [esc]
theorem esc_le (k : Int) (l : List UInt8) : (esc k l).length ≤ 2 * l.length := by
  induction l with
  | nil => simp [esc]
  | cons c r ih =>
    rw [esc_cons, List.length_append, List.length_cons]
    have : (escB k c).length ≤ 2 := by unfold escB; split <;> simp
    omega

/-- _escape writes the escaped text into a row. -/
theorem write57 (E : Nat) (k : Int) (s : ByteArray) (hs : s.size ≤ 5000) (A o m c : Nat) (w : World) (h : EscAt w E k) (hAE : A ≠ E) (hm : m = (esc k s.data.toList).length)
    (hc : ∀ j, j < m → (w.cell? ⟨A, o + j, none⟩).isSome = true) (hf : ∀ j, j < m → w.frozen? ⟨A, o + j, none⟩ = false) :
    Calls Tryd.prog 57 #[.pointer (some ⟨E, 0, none⟩), .slice (some ⟨A, o, none⟩) m c, .string s] w fun e w' =>
      e = .returned (.tuple #[]) ∧ w' = w.setCells A o (Lib.byteCells (esc k s.data.toList)) := by
  have H := Lib.hid h
  have HM := Lib.hid hm
  have HC := Lib.hid hc
  have HF := Lib.hid hf
  clear h hm hc hf
  go_enter Tryd.func57, Tryd.ntmps57
  go_wp2_with fail
  go_loopw [6, 7] (fun p i wr => ∃ j : Nat, j ≤ s.size ∧ i = .int .i64 j ∧ p = .int .i64 ((esc k (s.data.toList.take j)).length : Int) ∧ Hid (wr = w.setCells A o (Lib.byteCells (esc k (s.data.toList.take j))))) (fun _ i _ => s.size - (intOf i).toNat)
  case atStart => exact ⟨0, Nat.zero_le _, rfl, by simp [esc], Lib.hid (by simp [esc, Lib.byteCells, World.setCells])⟩
  case round =>
    obtain ⟨j, hj, rfl, rfl, hw⟩ := hrel
    have hsl : s.data.toList.length = s.size := by simp
    by_cases hlt : j < s.size
    · have hpl : j < s.data.toList.length := by simpa using hlt
      have htk : s.data.toList.take (j + 1) = s.data.toList.take j ++ [s[j]'hlt] := by
        rw [List.take_succ_eq_append_getElem hpl]
        rfl
      have hsplit : s.data.toList = s.data.toList.take j ++ ([s[j]'hlt] ++ s.data.toList.drop (j + 1)) := by
        conv => lhs; rw [← List.take_append_drop (j + 1) s.data.toList, htk]
        simp
      have hel : (esc k s.data.toList).length = (esc k (s.data.toList.take j)).length + ((escB k (s[j]'hlt)).length + (esc k (s.data.toList.drop (j + 1))).length) := by
        conv => lhs; rw [hsplit, esc_append, esc_append]
        simp [esc]
      have hes := esc_snoc k (s.data.toList.take j) (s[j]'hlt)
      rw [← htk] at hes
      have hle := esc_le k (s.data.toList.take j)
      have hle2 : (s.data.toList.take j).length ≤ 5000 := by rw [List.length_take]; omega
      generalize hx : s[j]'hlt = x at *
      generalize hp : esc k (s.data.toList.take j) = p at *
      have htb : wr.cell? ⟨E, x.toNat, none⟩ = some (.int .u8 (tab k x).toNat) := by
        rw [hw.out, World.cell?_setCells_out _ _ _ _ _ (fun e => absurd e (Ne.symm hAE))]
        exact H.out.tab x
      have hlen : (Lib.byteCells p).length = p.length := by simp [Lib.byteCells]
      have hcs : ∀ q, q < m → (wr.cell? ⟨A, o + q, none⟩).isSome = true := fun q hq => by rw [hw.out]; exact World.isSome_setCells _ _ _ _ _ (HC.out q hq)
      have hfz : ∀ q, q < m → wr.frozen? ⟨A, o + q, none⟩ = false := fun q hq => by rw [hw.out, World.frozen?_setCells]; exact HF.out q hq
      have hmm := HM.out
      generalize hP : p.length = P at *
      have hPl : 2 * (s.data.toList.take j).length ≤ 10000 := by omega
      have hPb : P ≤ 10000 := by omega
      have hxl : x.toNat < 256 := x.toNat_lt
      have hjl : (j : Int) < (s.size : Int) := by omega
      by_cases ht : tab k x = 0
      · have heb : escB k x = [x] := by simp [escB, ht]
        rw [heb] at hes hel
        simp only [List.length_singleton] at hel
        have hPm : P < m := by omega
        obtain ⟨v1, k1⟩ := Option.isSome_iff_exists.1 (hcs P hPm)
        have f1 := hfz P hPm
        rw [ht] at htb
        have HES := Lib.hid hes
        have HP := Lib.hid hP
        have HLEN := Lib.hid hlen
        have HSP := Lib.hid hsplit
        have HPI := (show (P : Int) < (m : Int) by omega)
        clear hes hP hlen hel htk hp hsplit hmm hcs hfz hle hle2 hPl heb ht
        go_wp2
        go_roundw
        case rel => 
          refine ⟨j + 1, by omega, by go_num, ?_, Lib.hid ?_⟩
          · rw [HES.out, List.length_append, HP.out]; go_num
          · rw [HES.out, hw.out, ← HP.out]
            have h := Lib.setCells_snoc_w A (.int .u8 x.toNat) (Lib.byteCells p) o w
            rw [HLEN.out] at h
            rw [HP.out, h]
            simp [Lib.byteCells]
        case measure => simp [intOf]; omega
      · have heb : escB k x = [92, tab k x] := by simp [escB, ht]
        rw [heb] at hes hel
        have hel2 : [(92 : UInt8), tab k x].length = 2 := rfl
        rw [hel2] at hel
        have hPm : P + 1 < m := by omega
        obtain ⟨v1, k1⟩ := Option.isSome_iff_exists.1 (hcs P (by omega))
        obtain ⟨v2, k2⟩ := Option.isSome_iff_exists.1 (hcs (P + 1) hPm)
        have f1 := hfz P (by omega)
        have f2 := hfz (P + 1) hPm
        have hn0 : ((tab k x).toNat : Int) ≠ 0 := by
          intro e
          apply ht
          apply UInt8.toNat_inj.1
          simpa using e
        have htl : (tab k x).toNat < 256 := (tab k x).toNat_lt
        generalize tab k x = t at *
        have hb0 : ((t.toNat : Int) == 0) = false := beq_eq_false_iff_ne.2 hn0
        have HES := Lib.hid hes
        have HP := Lib.hid hP
        have HLEN := Lib.hid hlen
        have HSP := Lib.hid hsplit
        have HPI := (show (P : Int) + 1 < (m : Int) by omega)
        clear hes hP hlen hel htk hp hsplit hmm hcs hfz hle hle2 hPl heb ht hn0
        go_wp2
        go_roundw
        case rel =>
          refine ⟨j + 1, by omega, by go_num, ?_, Lib.hid ?_⟩
          · rw [HES.out, List.length_append, HP.out]; go_num
          · rw [HES.out, hw.out]
            have h := Lib.setCells_snoc_w A (.int .u8 92) (Lib.byteCells p) o w
            rw [HLEN.out] at h
            have h2 := Lib.setCells_snoc_w A (.int .u8 t.toNat) (Lib.byteCells p ++ [.int .u8 92]) o w
            rw [List.length_append, HLEN.out] at h2
            rw [h]
            simp only [List.length_singleton] at h2
            rw [h2]
            simp [Lib.byteCells]
        case measure => simp [intOf]; omega
    · have he : j = s.size := by omega
      have hall : s.data.toList.take j = s.data.toList := by rw [he]; exact List.take_of_length_le (by simp)
      rw [hall] at hw
      rw [hall]
      have hle := esc_le k s.data.toList
      have hjl : ¬ ((j : Int) < (s.size : Int)) := by omega
      clear hall
      go_wp2
      go_returns
      exact ⟨rfl, hw.out⟩
end Go.Proofs.YtkibdomfiodilaaDoor.esc
