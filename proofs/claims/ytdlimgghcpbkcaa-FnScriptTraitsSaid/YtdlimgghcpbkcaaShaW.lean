/-
  Proved: the contract of (*sha1.digest).Write.
  Conditions: the digest has taken up a text; the slice's cells are a text's bytes and lie in another block.
-/
import Derived.Test.YtdlimgghcpbkcaaShaD
import Derived.Deep.DeepCutAuto
import Derived.Lib.BufferWrite
namespace Go.Proofs.Ytdlimgghcpbkcaa.sha
open Go.RowKit Mem Go.Great
set_option linter.unusedVariables false

/-- A digest that has taken up a text (its count of bytes apart). -/
structure Took (w : World) (X : Nat) (l : List UInt8) (len : Nat) (x : List UInt8) : Prop where
  dig : Dig w X (hs l) x (l.length % 64) len
  buf : ∀ j, j < l.length % 64 → x.getD j 0 = l.getD (64 * (l.length / 64) + j) 0
/-- A slice of a text's bytes. -/
def Src (w : World) (X g o : Nat) (p : List UInt8) : Prop := p ≠ [] → g ≠ X ∧ g < w.heap.size ∧ ∀ j, j < p.length → w.cell? ⟨g, o + j, none⟩ = some (.int .u8 ((p.getD j 0).toNat : Int))
theorem Src.old {w w' : World} {X g o : Nat} {p : List UInt8} (h : Src w X g o p) (hb : But [X] w w') : Src w' X g o p := fun hp => by
  obtain ⟨hg, hl, hc⟩ := h hp
  exact ⟨hg, Nat.lt_of_lt_of_le hl hb.size, fun j hj => (hb.cell (p := ⟨g, o + j, none⟩) hl (by simpa using hg)).trans (hc j hj)⟩
theorem Src.nil (w : World) (X g o : Nat) : Src w X g o [] := fun h => absurd rfl h
theorem Src.drop {w : World} {X g o : Nat} {p : List UInt8} (h : Src w X g o p) (k : Nat) : Src w X g (o + k) (p.drop k) := fun hp => by
  have hk : k < p.length := by
    rcases Nat.lt_or_ge k p.length with h' | h'
    · exact h'
    · exact absurd (List.drop_eq_nil_of_le h') hp
  obtain ⟨hg, hl, hc⟩ := h (fun e => by rw [e] at hk; simp at hk)
  refine ⟨hg, hl, fun j hj => ?_⟩
  rw [List.length_drop] at hj
  rw [Nat.add_assoc, hc (k + j) (by omega)]
  simp [List.getD]
theorem Src.src {w : World} {X g o k : Nat} {p : List UInt8} (h : Src w X g o p) (hk : 0 < (Lib.byteCells (p.take k)).length) :
    ∀ j v, (Lib.byteCells (p.take k))[j]? = some v → w.cell? ((⟨g, o, none⟩ : Addr).add j) = some v := by
  intro j v hv
  rw [Lib.byteCells_length, List.length_take] at hk
  obtain ⟨hg, hl, hc⟩ := h (fun e => by rw [e] at hk; simp at hk)
  have hj : j < (Lib.byteCells (p.take k)).length := (List.getElem?_eq_some_iff.1 hv).1
  rw [Lib.byteCells_length, List.length_take] at hj
  rw [Addr.add_lit, hc j (by omega), ← hv]
  have h1 : j < k := by omega
  have h2 : j < p.length := by omega
  simp [Lib.byteCells, h1, h2]
theorem andNot63 (x : Nat) (hx : x < 9223372036854775808) : bits .andNot .i64 (x : Int) 63 = ((64 * (x / 64) : Nat) : Int) := by
  show IntKind.i64.wrap ((BitVec.ofInt 64 (x : Int) &&& ~~~ BitVec.ofInt 64 63).toNat : Int) = _
  have e : (BitVec.ofInt 64 (x : Int) &&& ~~~ BitVec.ofInt 64 63) = BitVec.ofNat 64 (64 * (x / 64)) := by
    have h1 : ∀ i : Fin 64, (BitVec.ofInt 64 63).getLsbD i.val = decide (i.val < 6) := by decide
    have h2 : BitVec.ofNat 64 (64 * (x / 64)) = (BitVec.ofNat 64 x >>> 6) <<< 6 := by
      apply BitVec.eq_of_toNat_eq
      rw [BitVec.toNat_shiftLeft, BitVec.toNat_ushiftRight, BitVec.toNat_ofNat, BitVec.toNat_ofNat, Nat.shiftRight_eq_div_pow, Nat.shiftLeft_eq, Nat.mod_eq_of_lt (show x < 2 ^ 64 by omega)]
      congr 1
      omega
    rw [h2, show BitVec.ofInt 64 (x : Int) = BitVec.ofNat 64 x by simp]
    apply BitVec.eq_of_getLsbD_eq
    intro i hi
    rw [BitVec.getLsbD_and, BitVec.getLsbD_not, h1 ⟨i, hi⟩, BitVec.getLsbD_shiftLeft, BitVec.getLsbD_ushiftRight]
    by_cases h6 : i < 6
    · simp [h6]
    · simp [h6, hi, show 6 + (i - 6) = i by omega]
  rw [e, BitVec.toNat_ofNat, Nat.mod_eq_of_lt (by omega), IntKind.wrap_i64]
  omega

theorem getD_take {p : List UInt8} {k j : Nat} (h : j < k) : (p.take k).getD j 0 = p.getD j 0 := by
  rw [List.getD, List.getD, List.getElem?_take, if_pos h]
theorem getD_drop (p : List UInt8) (k j : Nat) : (p.drop k).getD j 0 = p.getD (k + j) 0 := by
  rw [List.getD, List.getD, List.getElem?_drop]
theorem getD_app_lo {l p : List UInt8} {j : Nat} (h : j < l.length) : (l ++ p).getD j 0 = l.getD j 0 := by
  rw [List.getD, List.getD, List.getElem?_append_left h]
theorem getD_app_hi (l p : List UInt8) (j : Nat) : (l ++ p).getD (l.length + j) 0 = p.getD j 0 := by
  rw [List.getD, List.getD, List.getElem?_append_right (by omega), Nat.add_sub_cancel_left]

/-- The buffer behind a copy. -/
theorem splice_buf {l q x : List UInt8} (hx : x.length = 64) (hb : ∀ j, j < l.length % 64 → x.getD j 0 = l.getD (64 * (l.length / 64) + j) 0) (hq : l.length % 64 + q.length ≤ 64) :
    ∀ j, j < l.length % 64 + q.length → (splice x (l.length % 64) q).getD j 0 = (l ++ q).getD (64 * (l.length / 64) + j) 0 := by
  intro j hj
  by_cases h : j < l.length % 64
  · rw [splice_lo (by omega) h, hb j h, getD_app_lo (by omega)]
  · obtain ⟨i, rfl⟩ : ∃ i, j = l.length % 64 + i := ⟨j - l.length % 64, by omega⟩
    rw [splice_mid (by omega) (by omega), show 64 * (l.length / 64) + (l.length % 64 + i) = l.length + i by omega, getD_app_hi]
theorem wb_eq {a b : List UInt8} {i j : Nat} (h : a.getD i 0 = b.getD j 0) : wb a i = wb b j := by unfold wb; rw [h]
theorem hs_take (l p : List UInt8) (hl : l.length % 64 = 0) : hs (l ++ p.take (64 * (p.length / 64))) = blocks (hs l) (wb p) (p.length / 64) := by
  have e : (p.take (64 * (p.length / 64))).length = 64 * (p.length / 64) := by rw [List.length_take]; omega
  rw [hs_blocks _ _ hl, e, Nat.mul_div_cancel_left _ (by decide)]
  exact blocks_congr _ _ _ _ (fun i hi => wb_eq (getD_take hi))

theorem blocks_one (s : S5) (b : Nat → BitVec 32) : blocks s b 1 = block s b := block_congr s _ _ (fun i _ => by rw [Nat.mul_zero, Nat.zero_add])

/-- What is there at a cut: so much of the text is taken up, the rest lies in slot 1. -/
structure Mid (w : World) (X : Nat) (T : List UInt8) (g o : Nat) (p' : List UInt8) (wx : World) : Prop where
  ex : ∃ l' x', l' ++ p' = T ∧ (p' = [] ∨ l'.length % 64 = 0) ∧ Took wx X l' T.length x'
  src : Src wx X g o p'
  but : But [X] w wx

set_option maxRecDepth 100000 in
set_option maxHeartbeats 8000000 in
theorem write41 (l p : List UInt8) (X g o cap : Nat) (x : List UInt8) (w : World) (hT : Took w X l l.length x) (hs : Src w X g o p) (hcap : p.length ≤ cap) (hmax : l.length + p.length ≤ 1000000) :
    Calls Try.prog 41 #[.pointer (some ⟨X, 0, none⟩), .slice (some ⟨g, o, none⟩) p.length cap] w fun e w' => e = .returned (.tuple #[.int .i64 (p.length : Int), .nilIface]) ∧ ∃ x', Took w' X (l ++ p) (l ++ p).length x' ∧ But [X] w w' := by
  have hX := hT.dig.lt
  have c70 := hT.dig.clen
  have f70 := hT.dig.fz 70
  have HTK := Lib.hid hT
  have HSR := Lib.hid hs
  clear hT hs
  obtain ⟨ll, hll⟩ : ∃ ll, l.length = ll := ⟨_, rfl⟩
  obtain ⟨pl, hpl⟩ : ∃ pl, p.length = pl := ⟨_, rfl⟩
  rw [hll, hpl] at hmax
  rw [hll] at c70
  rw [hpl] at hcap ⊢
  have HLL := Lib.hid hll
  have HPL := Lib.hid hpl
  clear hll hpl
  have k1 : IntKind.u64.wrap (pl : Int) = (pl : Int) := by simp [IntKind.wrap, IntKind.bits, IntKind.signed]; omega
  obtain ⟨m, hm⟩ : ∃ m, l.length % 64 = m := ⟨_, rfl⟩
  have c69 : w.cell? ⟨X, 69, none⟩ = some (.int .i64 (m : Int)) := hm ▸ HTK.out.dig.cnx
  have hm64 : m < 64 := by omega
  have HM := Lib.hid hm
  clear hm
  go_enter Try.func41, Try.ntmps41
  go_upto_if 23 with (fail)
  obtain ⟨w1, hw1⟩ : ∃ w1, w.setCell ⟨X, 70, none⟩ (.int .u64 ((ll : Int) + (pl : Int))) = w1 := ⟨_, rfl⟩
  rw [hw1]
  have D1 : Hid (Dig w1 X (hs l) x m (ll + pl)) := Lib.hid (by rw [← hw1, ← HM.out]; exact HTK.out.dig.setLen (ll + pl))
  have B1 : Hid (But [X] w w1) := Lib.hid (by rw [← hw1]; exact (But.refl _ _).setCell (Or.inl (by simp)) _)
  have S1 := Lib.hid (HSR.out.old B1.out)
  have TX := Lib.hid HTK.out.buf
  clear hw1 c70 f70 c69 HTK HSR
  go_cut [1] (fun pv wx => ∃ (g o : Nat) (p' : List UInt8) (c' : Nat), pv = .slice (some ⟨g, o, none⟩) p'.length c' ∧ p'.length ≤ c' ∧ Hid (Mid w X (l ++ p) g o p' wx))
  case first =>
    by_cases h0 : m = 0
    · subst h0
      go_wp2
      go_meet
      case rel =>
        refine ⟨g, o, p, cap, by rw [HPL.out], by rw [HPL.out]; exact hcap, Lib.hid ⟨⟨l, x, rfl, Or.inr HM.out, ?_, TX.out⟩, S1.out, B1.out⟩⟩
        rw [HM.out, List.length_append, HLL.out, HPL.out]
        exact D1.out
    · have c69 := D1.out.cnx
      have f69 := D1.out.fz 69
      have m0 : (0 : Int) < (m : Int) := by omega
      have m1 : (m : Int) ≤ 64 := by omega
      have m2 : ¬ 64 = m := by omega
      have m3 : (0 : Int) ≤ (m : Int) := by omega
      go_wp2
      refine region_tail 9 (by kernel_rfl) ?_
      simp only [List.take_succ_cons, List.take_zero, List.drop_succ_cons, List.drop_zero]
      repeat still_step
      refine wpStill_nil ?_
      obtain ⟨q, hq⟩ : ∃ q, p.take (64 - m) = q := ⟨_, rfl⟩
      obtain ⟨kq, hkq⟩ : ∃ kq, min (64 - m) pl = kq := ⟨_, rfl⟩
      have hql : q.length = kq := by rw [← hq, List.length_take, HPL.out]; exact hkq
      have hbl : (Lib.byteCells q).length = kq := by rw [Lib.byteCells_length, hql]
      refine wpList_copy_but rfl (.tmp 31) (.tmp 32) 50 50 rfl 5 Try.underlying50 (by kernel_rfl) _ _ _ _ _ _ rfl rfl X (5 + m) (dl (hs l) x m (ll + pl)) 132 D1.out.row (Lib.byteCells q) (by rw [hbl, ← hkq, Nat.min_comm]) (fun hp => ⟨rfl, _, rfl, by rw [← hq] at hp ⊢; exact (S1.out.src hp)⟩) (by rw [hbl, dl_length, D1.out.hx]; omega) (Lib.byteCells_one _) ?_
      intro w2 HR2 HB2
      rw [hbl]
      have D2 : Hid (Dig w2 X (hs l) (splice x m q) m (ll + pl)) := Lib.hid (Dig.splice D1.out.hx (by rw [hql]; omega) HR2.out)
      have B2 : Hid (But [X] w1 w2) := Lib.hid (((But.refl [X] w1).drew).trans HB2.out)
      have HQ := Lib.hid hq
      have HQL := Lib.hid hql
      have HKQ := Lib.hid hkq
      have kl : kq ≤ pl := by omega
      clear hq hql hbl hkq HR2 HB2 c69 f69
      have c69 := D2.out.cnx
      have f69 := D2.out.fz 69
      by_cases h64 : m + kq = 64
      · have D3 : Hid (Dig (w2.setCell ⟨X, 69, none⟩ (.int .i64 64)) X (hs l) (splice x m q) 64 (ll + pl)) := Lib.hid (D2.out.setNx 64)
        have B3 : Hid (But [X] w2 (w2.setCell ⟨X, 69, none⟩ (.int .i64 64))) := Lib.hid ((But.refl _ _).setCell (Or.inl (by simp)) _)
        have HC := Lib.hid (block58 (hs l) 1 64 X X 5 64 (wb (splice x m q)) _ (fun i => by rw [iv_wb]; have := ((splice x m q).getD i 0).toNat_lt; omega) (by omega) (by omega) (by omega) (by omega) D3.out.word (fun j _ => D3.out.fz j) (fun i hi => by rw [D3.out.byte i hi, iv_wb]) D3.out.lt)
        have i64 : (m : Int) + (kq : Int) = 64 := by omega
        go_wp2_with (go_at_call 58; refine HC.out.mono ?_; rintro e w4 ⟨rfl, h4⟩; obtain ⟨D4, B4⟩ := block_dig D3.out h4.out; have e69 := D4.cnx; have g69 := D4.fz 69; (have D5 := Lib.hid D4); (have B5 := Lib.hid B4); clear D4 B4 h4)
        all_goals go_meet
        all_goals
          have hm := HM.out
          have hkq := HKQ.out
          have hpl := HPL.out
          have hll := HLL.out
          have hql := HQL.out
          have hsum : l ++ q ++ p.drop kq = l ++ p := by rw [List.append_assoc, ← HQ.out, show kq = 64 - m by omega, List.take_append_drop]
          have hlen : (l ++ q).length = ll + kq := by rw [List.length_append]; omega
          have h0' : (l ++ q).length % 64 = 0 := by omega
          have hcase : ∀ off, off = o + kq ∨ pl = kq → ∀ W, But [X] w1 W → Src W X g off (p.drop kq) := by
            rintro off (rfl | e) W hW
            · exact (S1.out.drop kq).old hW
            · rw [List.drop_eq_nil_of_le (by omega)]
              exact Src.nil _ _ _ _
          first
            | refine ⟨g, o, p.drop kq, 0, (by rw [List.length_drop, hpl]), (by rw [List.length_drop]; omega), Lib.hid ⟨⟨l ++ q, splice x m q, hsum, Or.inr h0', ?_, ?_⟩, hcase _ (by right; omega) _ ?_, ?_⟩⟩
            | refine ⟨g, o + kq, p.drop kq, cap - kq, (by rw [List.length_drop, hpl]), (by rw [List.length_drop]; omega), Lib.hid ⟨⟨l ++ q, splice x m q, hsum, Or.inr h0', ?_, ?_⟩, hcase _ (Or.inl rfl) _ ?_, ?_⟩⟩
          · rw [h0', List.length_append, hll, hpl]
            have hb := splice_buf D1.out.hx TX.out (q := q) (by omega)
            rw [hm, hql] at hb
            rw [hs_full l q (by omega) (wb (splice x m q)) (fun j hj => wb_eq (hb j (by omega))), ← blocks_one]
            exact D5.out.setNx 0
          · rw [h0']; intro j hj; omega
          · exact ((B2.out.trans B3.out).trans B5.out).setCell (Or.inl (by simp)) _
          · exact (((B1.out.trans B2.out).trans B3.out).trans B5.out).setCell (Or.inl (by simp)) _
      · go_wp2
        all_goals go_meet
        all_goals
          have hm := HM.out
          have hkq := HKQ.out
          have hpl := HPL.out
          have hll := HLL.out
          have hql := HQL.out
          have e : q = p := by rw [← HQ.out]; exact List.take_of_length_le (by omega)
          refine ⟨_, _, [], _, (by first | rfl | (rw [show pl - kq = 0 by omega]; rfl)), by simp, Lib.hid ⟨⟨l ++ p, splice x m q, by simp, Or.inl rfl, ?_, ?_⟩, Src.nil _ _ _ _, ?_⟩⟩
          · have hlen : (l ++ p).length = ll + kq := by rw [List.length_append]; omega
            rw [hs_short l p (by omega), hlen, show (ll + kq) % 64 = m + kq by omega, show ll + kq = ll + pl by omega]
            exact D2.out.setNx (m + kq)
          · have hlen : (l ++ p).length = ll + kq := by rw [List.length_append]; omega
            rw [hlen, show (ll + kq) % 64 = m + kq by omega, show (ll + kq) / 64 = l.length / 64 by omega]
            have := splice_buf D1.out.hx TX.out (q := q) (by omega)
            rw [hm, hql, e] at this
            rw [e]
            exact this
          · exact (B1.out.trans B2.out).setCell (Or.inl (by simp)) _
  case rest =>
    clear D1 B1 S1 TX HM hm64 k1 w1 x
    obtain ⟨g', o', p', c', rfl, hc', M⟩ := hcut
    obtain ⟨P, hP⟩ : ∃ P, p'.length = P := ⟨_, rfl⟩
    rw [hP] at hc'
    have hPm : P ≤ 1000000 := by
      obtain ⟨l', x', h, _⟩ := M.out.ex
      have := congrArg List.length h
      rw [List.length_append, List.length_append, HLL.out, HPL.out] at this
      omega
    have HP := Lib.hid hP
    rw [hP]
    clear hP
    go_upto_if 61 with (fail)
    go_cut [1] (fun pv wx => ∃ (g o : Nat) (p' : List UInt8) (c' : Nat), pv = .slice (some ⟨g, o, none⟩) p'.length c' ∧ p'.length ≤ c' ∧ p'.length < 64 ∧ Hid (Mid w X (l ++ p) g o p' wx))
    case first =>
      by_cases hbig : 64 ≤ P
      · obtain ⟨l', x', hsum, hor, hT⟩ := M.out.ex
        have hne : p' ≠ [] := fun e => by have := HP.out; rw [e] at this; simp at this; omega
        have hmod : l'.length % 64 = 0 := hor.resolve_left hne
        obtain ⟨hg', hl', hc2⟩ := M.out.src hne
        have hhp := HP.out
        obtain ⟨n2, hn2⟩ : ∃ n2, 64 * (P / 64) = n2 := ⟨_, rfl⟩
        have hn2P : n2 ≤ P := by omega
        have hn20 : 64 ≤ n2 := by omega
        have hn2' : P < n2 + 64 := by omega
        have an : bits .andNot .i64 (P : Int) 63 = (n2 : Int) := by rw [andNot63 P (by omega), hn2]
        have D1 : Hid (Dig wc X (hs l') x' 0 (l ++ p).length) := Lib.hid (hmod ▸ hT.dig)
        have HC := Lib.hid (block58 (hs l') (P / 64) n2 X g' o' c' (wb p') wc (fun i => by rw [iv_wb]; have := (p'.getD i 0).toNat_lt; omega) (by omega) (by omega) (by omega) (by omega) D1.out.word (fun j _ => D1.out.fz j) (fun i hi => by rw [hc2 i (by omega), iv_wb]) hl')
        have HN2 := Lib.hid hn2
        have HS := Lib.hid hsum
        have HMOD := Lib.hid hmod
        clear hsum hor hT hne hmod hc2 hhp hn2
        go_wp2_with (go_at_call 58; refine HC.out.mono ?_; rintro e w4 ⟨rfl, h4⟩; obtain ⟨D4, B4⟩ := block_dig D1.out h4.out; (have D5 := Lib.hid D4); (have B5 := Lib.hid B4); clear D4 B4 h4)
        all_goals go_meet
        all_goals
          have hmod := HMOD.out
          have hn2 := HN2.out
          have hhp := HP.out
          have hlen : (p'.take n2).length = n2 := by rw [List.length_take]; omega
          have h0' : (l' ++ p'.take n2).length % 64 = 0 := by rw [List.length_append, hlen]; omega
          have hsum' : l' ++ p'.take n2 ++ p'.drop n2 = l ++ p := by rw [List.append_assoc, List.take_append_drop, HS.out]
          have hcase : ∀ off, off = o' + n2 ∨ P = n2 → ∀ W, But [X] wc W → Src W X g' off (p'.drop n2) := by
            rintro off (rfl | e) W hW
            · exact (M.out.src.drop n2).old hW
            · rw [List.drop_eq_nil_of_le (by omega)]
              exact Src.nil _ _ _ _
          first
            | refine ⟨g', o', p'.drop n2, 0, (by rw [List.length_drop, hhp]), (by rw [List.length_drop]; omega), (by rw [List.length_drop]; omega), Lib.hid ⟨⟨l' ++ p'.take n2, x', hsum', Or.inr h0', ?_, ?_⟩, hcase _ (by right; omega) _ B5.out, M.out.but.trans B5.out⟩⟩
            | refine ⟨g', o' + n2, p'.drop n2, c' - n2, (by rw [List.length_drop, hhp]), (by rw [List.length_drop]; omega), (by rw [List.length_drop]; omega), Lib.hid ⟨⟨l' ++ p'.take n2, x', hsum', Or.inr h0', ?_, ?_⟩, hcase _ (Or.inl rfl) _ B5.out, M.out.but.trans B5.out⟩⟩
          · rw [h0', ← hn2, ← hhp, hs_take l' p' hmod, hhp]
            exact D5.out
          · rw [h0']; intro j hj; omega
      · go_wp2
        go_meet
        case rel => exact ⟨g', o', p', c', by rw [HP.out], by rw [HP.out]; exact hc', by rw [HP.out]; omega, M⟩
    case rest =>
      clear M HP hPm hc' p' P
      obtain ⟨g1, o1, p1, c1, rfl, hc1, hlt, M⟩ := hcut
      obtain ⟨P, hP⟩ : ∃ P, p1.length = P := ⟨_, rfl⟩
      rw [hP] at hc1 hlt
      have HP := Lib.hid hP
      rw [hP]
      clear hP
      obtain ⟨l', x', hsum, hor, hT⟩ := M.out.ex
      by_cases h0 : P = 0
      · subst h0
        have hB := Lib.hid M.out.but
        have hT' : Hid (Took wc X (l ++ p) (l ++ p).length x') := Lib.hid (by
          have : p1 = [] := List.eq_nil_of_length_eq_zero HP.out
          rw [this, List.append_nil] at hsum
          rw [hsum] at hT
          exact hT)
        clear hsum hor hT M
        go_wp2
        go_ret2
        exact ⟨rfl, x', hT'.out, hB.out⟩
      · have hne : p1 ≠ [] := fun e => h0 (by rw [← HP.out, e]; rfl)
        have hmod : l'.length % 64 = 0 := hor.resolve_left hne
        have D1 : Hid (Dig wc X (hs l') x' 0 (l ++ p).length) := Lib.hid (hmod ▸ hT.dig)
        have HMOD := Lib.hid hmod
        have HS := Lib.hid hsum
        have S1 := Lib.hid M.out.src
        have B1 := Lib.hid M.out.but
        clear hsum hor hT hne hmod M
        have hbl : (Lib.byteCells p1).length = P := by rw [Lib.byteCells_length, HP.out]
        have hone : P = (Lib.byteCells p1).length := hbl.symm
        obtain ⟨w2, hrun, HR2, HB2⟩ : ∃ w2, (Builtin.copy_ #[50, 50] 3 #[.slice (some ⟨X, 5, none⟩) 64 64, .slice (some ⟨g1, o1, none⟩) P c1]).run Try.prog wc = .ok (.int .i64 (P : Int)) w2 ∧
            w2.heap[X]? = some (.cells (splice (dl (hs l') x' 0 (l ++ p).length) (5 + 0) (Lib.byteCells p1)).toArray 132 (0, 0)) ∧ But [X] wc w2 := by
          have h := run_copy_row (P := Try.prog) wc 50 50 3 5 X 5 64 64 ⟨g1, o1, none⟩ P c1 (dl (hs l') x' 0 (l ++ p).length).toArray 132 (Lib.byteCells p1) Try.underlying50 (by kernel_rfl) D1.out.row (by rw [hbl]; show P = min P 64; omega) (by
            have := S1.out.src (k := P)
            rw [List.take_of_length_le (by rw [HP.out]; omega)] at this
            exact this (by rw [hbl]; omega)) (by rw [hbl, List.size_toArray, dl_length, D1.out.hx]; omega) (Lib.byteCells_one _)
          rw [hbl] at h
          refine ⟨_, h, ?_, but_setRow (But.refl _ _) (Or.inl (by simp)) _⟩
          rw [setRow_heap _ _ _ _ _ _ D1.out.row]
          unfold splice
          rw [hbl, List.append_assoc]
        have D2 := Dig.splice D1.out.hx (by rw [HP.out]; omega) HR2
        have e69 := D2.cnx
        have g69 := D2.fz 69
        have D3 := Lib.hid (D2.setNx P)
        have B2 := Lib.hid HB2
        clear D2 HR2 HB2 hone hbl
        go_wp2
        go_ret2
        refine ⟨rfl, splice x' 0 p1, ⟨?_, ?_⟩, (B1.out.trans B2.out).setCell (Or.inl (by simp)) _⟩
        · have hmod := HMOD.out
          have hhp := HP.out
          have hlen : (l ++ p).length % 64 = P := by rw [← HS.out, List.length_append]; omega
          rw [hlen, ← HS.out, hs_short l' p1 (by omega), HS.out]
          exact D3.out
        · have hmod := HMOD.out
          have hhp := HP.out
          have hb := splice_buf (l := l') (q := p1) (x := x') D1.out.hx (by rw [hmod]; intro j hj; omega) (by omega)
          rw [hmod] at hb
          rw [← HS.out]
          intro j hj
          have e : (l' ++ p1).length / 64 = l'.length / 64 := by rw [List.length_append]; omega
          rw [e]
          rw [List.length_append] at hj
          exact hb j (by omega)
end Go.Proofs.Ytdlimgghcpbkcaa.sha
