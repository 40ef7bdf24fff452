/-
  Proved: what stands between entries: plain laws, and the contract of the reference's Passed.
  Conditions: a text of at most 4000 bytes.
-/
import Derived.Test.YtlcbcgillekphaaGreatDoorSda
namespace Go.Proofs.YtlcbcgillekphaaGreatDoor.sd
open Go.RowKit Mem rw ent
set_option linter.unusedVariables false
set_option linter.unusedSimpArgs false

def pz (l : List UInt8) : Nat := dm.passed (l.length + 1) l
theorem eol_pos {c : UInt8} {t : List UInt8} {e : Nat} (h : dm.eol (c :: t) = some e) : 1 ≤ e := by
  unfold dm.eol at h
  simp only at h
  split at h
  · simp at h; omega
  · split at h
    · cases t with
      | nil => simp at h; omega
      | cons d r =>
        simp only at h
        split at h
        · simp at h; omega
        · cases h
    · cases h
theorem run_pos {t : List UInt8} : 1 ≤ dm.runN (dm.inS 11) (35 :: t) := by
  unfold dm.runN
  rw [List.takeWhile_cons_of_pos (by decide)]
  simp
theorem passed_fuel : ∀ (n m : Nat) (l : List UInt8), l.length < n → l.length < m → dm.passed n l = dm.passed m l
  | 0, m, l, h, _ => by omega
  | n + 1, 0, l, _, h => by omega
  | n + 1, m + 1, l, h1, h2 => by
    unfold dm.passed
    simp only
    have hl : (l.drop (dm.runN (dm.inS 0) l)).length ≤ l.length := by rw [List.length_drop]; omega
    generalize l.drop (dm.runN (dm.inS 0) l) = l1 at hl
    cases l1 with
    | nil => rfl
    | cons c t =>
      simp only
      by_cases h35 : c = 35
      · subst h35
        simp only [if_true]
        cases he : dm.eol ((35 :: t).drop (dm.runN (dm.inS 11) (35 :: t))) with
        | none => rfl
        | some e =>
          simp only
          have hq := @run_pos t
          rw [passed_fuel n m _ (by rw [List.length_drop]; simp only [List.length_cons] at hl ⊢; omega) (by rw [List.length_drop]; simp only [List.length_cons] at hl ⊢; omega)]
      · simp only [h35, if_false]
        cases he : dm.eol (c :: t) with
        | none => rfl
        | some e =>
          simp only
          have hq := eol_pos he
          rw [passed_fuel n m _ (by rw [List.length_drop]; simp only [List.length_cons] at hl ⊢; omega) (by rw [List.length_drop]; simp only [List.length_cons] at hl ⊢; omega)]
theorem passed_pz (n : Nat) (l : List UInt8) (h : l.length < n) : dm.passed n l = pz l := passed_fuel n (l.length + 1) l h (by omega)
section
variable {T : List UInt8} {x y z e j q v : Nat} {c : UInt8}
theorem drop_at {a : Nat} (h : T[a]? = some c) : T.drop a = c :: T.drop (a + 1) := by
  have hlt : a < T.length := by
    rcases Nat.lt_or_ge a T.length with hh | hh
    · exact hh
    · rw [List.getElem?_eq_none hh] at h; cases h
  rw [List.drop_eq_getElem_cons hlt]
  rw [List.getElem?_eq_getElem hlt] at h
  simp at h
  rw [h]
theorem pz_end (h : dm.runN (dm.inS 0) (T.drop x) = j) (hy : x + j = y) (he : T.length ≤ y) : x + pz (T.drop x) = y := by
  unfold pz dm.passed
  simp only [h, List.drop_drop, hy, List.drop_eq_nil_of_le he]
theorem pz_hash_no (h : dm.runN (dm.inS 0) (T.drop x) = j) (hy : x + j = y) (hc : T[y]? = some 35) (hq : dm.runN (dm.inS 11) (T.drop y) = q) (hz : y + q = z) (he : dm.eol (T.drop z) = none) : x + pz (T.drop x) = x := by
  have hd := drop_at hc
  unfold pz dm.passed
  simp only [h, List.drop_drop, hy, hd]
  rw [← hd, hq]
  simp only [if_true, List.drop_drop, hz, he]
  rfl
theorem pz_hash (h : dm.runN (dm.inS 0) (T.drop x) = j) (hy : x + j = y) (hc : T[y]? = some 35) (hq : dm.runN (dm.inS 11) (T.drop y) = q) (hz : y + q = z) (he : dm.eol (T.drop z) = some e) (hv : z + e = v) (hx : x ≤ T.length) : x + pz (T.drop x) = v + pz (T.drop v) := by
  have hd := drop_at hc
  have hq1 : 1 ≤ q := by rw [← hq, hd]; exact run_pos
  have hyl : y < T.length := by
    rcases Nat.lt_or_ge y T.length with hh | hh
    · exact hh
    · rw [List.getElem?_eq_none hh] at hc; cases hc
  have hp := passed_pz (T.drop x).length (T.drop v) (by rw [List.length_drop, List.length_drop]; omega)
  rw [← hp]
  conv => lhs; unfold pz dm.passed
  simp only [h, List.drop_drop, hy, hd]
  rw [← hd, hq]
  simp only [if_true, List.drop_drop, hz, he]
  rw [show y + (q + e) = v by omega]
  omega
theorem pz_no (h : dm.runN (dm.inS 0) (T.drop x) = j) (hy : x + j = y) (hc : T[y]? = some c) (h35 : ¬ c = 35) (he : dm.eol (T.drop y) = none) : x + pz (T.drop x) = y := by
  have hd := drop_at hc
  unfold pz dm.passed
  simp only [h, List.drop_drop, hy, hd]
  rw [← hd, he, if_neg h35]
  exact hy
theorem pz_yes (h : dm.runN (dm.inS 0) (T.drop x) = j) (hy : x + j = y) (hc : T[y]? = some c) (h35 : ¬ c = 35) (he : dm.eol (T.drop y) = some e) (hv : y + e = v) (hx : x ≤ T.length) : x + pz (T.drop x) = v + pz (T.drop v) := by
  have hd := drop_at hc
  have he1 : 1 ≤ e := by rw [hd] at he; exact eol_pos he
  have hyl : y < T.length := by
    rcases Nat.lt_or_ge y T.length with hh | hh
    · exact hh
    · rw [List.getElem?_eq_none hh] at hc; cases hc
  have hp := passed_pz (T.drop x).length (T.drop v) (by rw [List.length_drop, List.length_drop]; omega)
  rw [← hp]
  conv => lhs; unfold pz dm.passed
  simp only [h, List.drop_drop, hy, hd]
  rw [← hd, he, if_neg h35]
  simp only [List.drop_drop, hv]
  omega
end
/-- What a run of a set stands at. -/
theorem run_of {s : ByteArray} {k x j y : Nat} (h : dec.Run s.data.toList (dm.inS k) x j) (hy : x + j = y) (hx : x ≤ s.size) (he : s.size ≤ y ∨ ∃ c, s.data.toList[y]? = some c ∧ dm.inS k c = false) (hys : y ≤ s.size) : dm.runN (dm.inS k) (s.data.toList.drop x) = j := by
  have hll : s.data.toList.length = s.size := by simp
  refine h.runN ?_ (by omega)
  rcases he with he | ⟨c, h1, h2⟩
  · exact .inl (by omega)
  · have hlt : y < s.data.toList.length := by
      rcases Nat.lt_or_ge y s.data.toList.length with hh | hh
      · exact hh
      · rw [List.getElem?_eq_none hh] at h1; cases h1
    exact .inr ⟨by omega, by rw [hy, List.getD_eq_getElem?_getD, h1]; exact h2⟩
theorem run_more {s : ByteArray} {k x j y : Nat} {c : UInt8} (h : dec.Run s.data.toList (dm.inS k) x j) (hy : x + j = y) (h1 : s.data.toList[y]? = some c) (h2 : dm.inS k c = true) : dec.Run s.data.toList (dm.inS k) x (j + 1) := by
  have hlt : y < s.data.toList.length := by
    rcases Nat.lt_or_ge y s.data.toList.length with hh | hh
    · exact hh
    · rw [List.getElem?_eq_none hh] at h1; cases h1
  exact h.one (by omega) (by rw [hy, List.getD_eq_getElem?_getD, h1]; exact h2)
set_option maxRecDepth 100000 in
set_option maxHeartbeats 4000000 in
theorem passed9 (s : ByteArray) (hs : s.size ≤ 4000) (w : World) :
    Calls Tryz.prog 9 #[.string s] w fun e w' => e = .returned (.int .i64 (pz s.data.toList : Nat)) ∧ w = w' := by
  have HL : Hid (s.data.toList.length = s.size) := Lib.hid (by simp)
  go_enter Tryz.func9, Tryz.ntmps9
  go_wp2_with fail
  go_loopg [3, 4, 5, 6, 7, 8] s.size (fun g s3 s4 s5 s6 s7 s8 wr => ∃ x : Nat, x + g = s.size ∧ s3 = .int .i64 x ∧ w = wr ∧ Hid (pz s.data.toList = x + pz (s.data.toList.drop x)))
  case atStart => exact ⟨0, by omega, rfl, rfl, Lib.hid (by simp)⟩
  case round =>
    obtain ⟨x, hx, rfl, rfl, HX⟩ := hrel
    have hxs : x ≤ s.size := by omega
    go_wp2_with fail
    go_loopg [3] (s.size - x) (fun g1 s3 wy => ∃ j y : Nat, x + j = y ∧ y + g1 = s.size ∧ s3 = .int .i64 y ∧ w = wy ∧ Hid (dec.Run s.data.toList (dm.inS 0) x j))
    case atStart => exact ⟨0, x, rfl, by omega, rfl, rfl, Lib.hid (dec.Run.zero _ _ _)⟩
    case round =>
      obtain ⟨j, y, hj, hy, rfl, rfl, HR⟩ := hrel
      have hys : y ≤ s.size := by omega
      by_cases hlt : y < s.size
      rotate_left
      · have hi : ¬ (y : Int) < (s.size : Int) := by omega
        have hie : (y : Int) = (s.size : Int) := by omega
        have hye : y = s.size := by omega
        have hj2 := hj
        clear hie
        have HF : Hid (pz s.data.toList = y) := Lib.hid (by rw [HX.out]; exact pz_end (run_of HR.out hj hxs (.inl (by omega)) hys) hj (by have := HL.out; omega))
        clear hi hj hj2 HR hy hlt
        subst hye
        go_wp2_with fail
        go_ret
        exact ⟨by rw [HF.out]; rfl, rfl⟩
      have hi : (y : Int) < (s.size : Int) := by omega
      have hie : ¬ (y : Int) = (s.size : Int) := by omega
      have hieb : ((y : Int) == (s.size : Int)) = false := beq_false_of_ne hie
      have hsm := byteS hlt
      obtain ⟨c, hc⟩ : ∃ c, s[y]'hlt = c := ⟨_, rfl⟩
      rw [hc] at hsm
      have HS := Lib.hid hsm
      have hcb := c.toNat_lt
      clear hsm
      by_cases h32 : c = 32
      · have hz : (c.toNat : Int) = 32 := by rw [h32]; rfl
        have hzb : ((c.toNat : Int) == 32) = true := by rw [hz]; rfl
        have H1 := Lib.hid (run_more HR.out hj HS.out (by rw [h32]; decide))
        obtain ⟨y1, hy1⟩ : ∃ y1, y + 1 = y1 := ⟨_, rfl⟩
        have hw : IntKind.i64.wrap ((y : Int) + 1) = (y1 : Int) := by rw [IntKind.wrap_i64]; omega
        clear h32
        go_wp2_with fail
        go_roundg (s.size - y1)
        case measure => omega
        case rel => exact ⟨j + 1, y1, by omega, by omega, rfl, rfl, H1⟩
      have hz := cmpN (n := 32) (by decide) h32
      have hzb : ((c.toNat : Int) == 32) = false := beq_false_of_ne hz
      have HJ : Hid (dm.runN (dm.inS 0) (s.data.toList.drop x) = j) := Lib.hid (run_of HR.out hj hxs (.inr ⟨c, HS.out, by simp [dm.inS]; intro e; exact h32 (UInt8.toNat_inj.1 e)⟩) hys)
      clear h32
      by_cases h35 : c = 35
      · have hz5 : (c.toNat : Int) = 35 := by rw [h35]; rfl
        have hz5b : ((c.toNat : Int) == 35) = true := by rw [hz5]; rfl
        have H35 : Hid (s.data.toList[y]? = some 35) := Lib.hid (by rw [HS.out, h35])
        clear h35
        go_wp2_with fail
        clear hz hzb hz5 hz5b hcb HS hi hie hieb
        go_loopg [3] (s.size - y) (fun g1 s3 wy => ∃ q z : Nat, y + q = z ∧ z + g1 = s.size ∧ s3 = .int .i64 z ∧ w = wy ∧ Hid (dec.Run s.data.toList (dm.inS 11) y q))
        case atStart => exact ⟨0, y, rfl, by omega, rfl, rfl, Lib.hid (dec.Run.zero _ _ _)⟩
        case round =>
          obtain ⟨q, z, hq, hz, rfl, rfl, HQ⟩ := hrel
          have hzs : z ≤ s.size := by omega
          obtain ⟨bn, hbn⟩ : ∃ bn, nx s.data.toList z 11 = bn := ⟨_, rfl⟩
          have HB := Lib.hid hbn
          have exits : bn = false → Hid (dm.runN (dm.inS 11) (s.data.toList.drop y) = q) := fun e => by
            refine Lib.hid (run_of HQ.out hq (by omega) ?_ hzs)
            rcases Nat.lt_or_ge z s.size with h | h
            · refine .inr ⟨_, byteS h, ?_⟩
              have h1 := hbn.trans e
              unfold nx at h1
              rw [byteS h] at h1
              exact h1
            · exact .inl h
          have HEX := Lib.hid exits
          clear exits hbn
          cases bn with
          | true =>
            have hlt2 : z < s.size := by
              rcases Nat.lt_or_ge z s.size with h | h
              · exact h
              · have h1 := HB.out
                unfold nx at h1
                rw [List.getElem?_eq_none (by have := HL.out; omega)] at h1
                cases h1
            have hi2 : (z : Int) < (s.size : Int) := by omega
            have hsm := byteS hlt2
            obtain ⟨d, hd⟩ : ∃ d, s[z]'hlt2 = d := ⟨_, rfl⟩
            rw [hd] at hsm
            have hin : dm.inS 11 d = true := by have h1 := HB.out; unfold nx at h1; rw [hsm] at h1; exact h1
            have H1 := Lib.hid (run_more HQ.out hq hsm hin)
            have HIN := Lib.hid (spe.in12 11 (by decide) d)
            rw [hin] at HIN
            obtain ⟨z1, hz1⟩ : ∃ z1, z + 1 = z1 := ⟨_, rfl⟩
            have hw : IntKind.i64.wrap ((z : Int) + 1) = (z1 : Int) := by rw [IntKind.wrap_i64]; omega
            clear hsm hin
            go_wp2_with fail
            refine (HIN.out _).mono ?_
            rintro e w2 ⟨rfl, rfl⟩
            go_wp2_with fail
            go_roundg (s.size - z1)
            case measure => omega
            case rel => exact ⟨q + 1, z1, by omega, by omega, rfl, rfl, H1⟩
          | false =>
            have HQQ := HEX.out rfl
            clear HEX
            have hai : (z : Int) ≤ (s.size : Int) := by omega
            obtain ⟨N, be, heo⟩ : ∃ N be, eolV (s.data.toList.drop z) = (N, be) := ⟨_, _, rfl⟩
            have HEV := Lib.hid heo
            have HEO := Lib.hid (eolQ s z heo)
            have hN := eolV_le heo hzs
            clear heo
            obtain ⟨v, hv⟩ : ∃ v, z + N = v := ⟨_, rfl⟩
            have hwv : IntKind.i64.wrap ((z : Int) + (N : Int)) = (v : Int) := by rw [IntKind.wrap_i64]; omega
            have HV := Lib.hid hv
            have hq1 : 1 ≤ q := by have := HQQ.out; rw [← this, drop_at H35.out]; exact run_pos
            by_cases hlt2 : z < s.size
            · have hi2 : (z : Int) < (s.size : Int) := by omega
              have hsm := byteS hlt2
              obtain ⟨d, hd⟩ : ∃ d, s[z]'hlt2 = d := ⟨_, rfl⟩
              rw [hd] at hsm
              have hin : dm.inS 11 d = false := by have h1 := HB.out; unfold nx at h1; rw [hsm] at h1; exact h1
              have HIN := Lib.hid (spe.in12 11 (by decide) d)
              rw [hin] at HIN
              clear hsm hin hv
              go_wp2_with fail
              refine (HIN.out _).mono ?_
              rintro e w2 ⟨rfl, rfl⟩
              go_wp2_with fail
              refine (HEO.out _).mono ?_
              rintro e w2 ⟨rfl, rfl⟩
              clear HEO HIN
              cases be with
              | false =>
                have HF : Hid (pz s.data.toList = x) := Lib.hid (by rw [HX.out]; exact pz_hash_no HJ.out hj H35.out HQQ.out hq (eolV_none HEV.out).1)
                go_wp2_with fail
                go_ret
                exact ⟨by rw [HF.out]; rfl, rfl⟩
              | true =>
                have HF : Hid (pz s.data.toList = v + pz (s.data.toList.drop v)) := Lib.hid (by rw [HX.out]; exact pz_hash HJ.out hj H35.out HQQ.out hq (eolV_some HEV.out) HV.out (by have := HL.out; omega))
                go_wp2_with fail
                go_roundg (s.size - v)
                case measure => have := HV.out; omega
                case rel => exact ⟨v, by have := HV.out; omega, rfl, rfl, HF⟩
            · have hi2 : ¬ (z : Int) < (s.size : Int) := by omega
              clear hv
              go_wp2_with fail
              refine (HEO.out _).mono ?_
              rintro e w2 ⟨rfl, rfl⟩
              clear HEO
              cases be with
              | false =>
                have HF : Hid (pz s.data.toList = x) := Lib.hid (by rw [HX.out]; exact pz_hash_no HJ.out hj H35.out HQQ.out hq (eolV_none HEV.out).1)
                go_wp2_with fail
                go_ret
                exact ⟨by rw [HF.out]; rfl, rfl⟩
              | true =>
                have HF : Hid (pz s.data.toList = v + pz (s.data.toList.drop v)) := Lib.hid (by rw [HX.out]; exact pz_hash HJ.out hj H35.out HQQ.out hq (eolV_some HEV.out) HV.out (by have := HL.out; omega))
                go_wp2_with fail
                go_roundg (s.size - v)
                case measure => have := HV.out; omega
                case rel => exact ⟨v, by have := HV.out; omega, rfl, rfl, HF⟩
      have hz5 := cmpN (n := 35) (by decide) h35
      have hz5b : ((c.toNat : Int) == 35) = false := beq_false_of_ne hz5
      have H35 := Lib.hid h35
      clear h35
      have hai : (y : Int) ≤ (s.size : Int) := by omega
      obtain ⟨N, be, heo⟩ : ∃ N be, eolV (s.data.toList.drop y) = (N, be) := ⟨_, _, rfl⟩
      have HEV := Lib.hid heo
      have HEO := Lib.hid (eolQ s y heo)
      have hN := eolV_le heo hys
      clear heo
      obtain ⟨v, hv⟩ : ∃ v, y + N = v := ⟨_, rfl⟩
      have hwv : IntKind.i64.wrap ((y : Int) + (N : Int)) = (v : Int) := by rw [IntKind.wrap_i64]; omega
      have HV := Lib.hid hv
      clear hv
      go_wp2_with fail
      refine (HEO.out _).mono ?_
      rintro e w2 ⟨rfl, rfl⟩
      clear HEO
      cases be with
      | false =>
        have HF : Hid (pz s.data.toList = y) := Lib.hid (by rw [HX.out]; exact pz_no HJ.out hj HS.out H35.out (eolV_none HEV.out).1)
        go_wp2_with fail
        go_ret
        exact ⟨by rw [HF.out]; rfl, rfl⟩
      | true =>
        have HN1 : Hid (1 ≤ N) := Lib.hid (by have h1 := eolV_some HEV.out; rw [drop_at HS.out] at h1; exact eol_pos h1)
        have HF : Hid (pz s.data.toList = v + pz (s.data.toList.drop v)) := Lib.hid (by rw [HX.out]; exact pz_yes HJ.out hj HS.out H35.out (eolV_some HEV.out) HV.out (by have := HL.out; omega))
        go_wp2_with fail
        go_roundg (s.size - v)
        case measure => have := HV.out; have := HN1.out; omega
        case rel => exact ⟨v, by have := HV.out; omega, rfl, rfl, HF⟩
end Go.Proofs.YtlcbcgillekphaaGreatDoor.sd
