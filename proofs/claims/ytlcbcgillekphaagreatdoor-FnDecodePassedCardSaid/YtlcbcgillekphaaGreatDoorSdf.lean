/-
  Proved: the contract of the reference's Field: a part of its cases.
  Conditions: a text of at most 4000 bytes.
-/
import Derived.Test.YtlcbcgillekphaaGreatDoorSdb
namespace Go.Proofs.YtlcbcgillekphaaGreatDoor.sd
open Go.RowKit Mem rw ent
set_option linter.unusedVariables false
set_option linter.unusedSimpArgs false

theorem at_lt {s : ByteArray} {i : Nat} {c : UInt8} (h : s.data.toList[i]? = some c) : i < s.size := by
  rcases Nat.lt_or_ge i s.size with h1 | h1
  · exact h1
  · rw [List.getElem?_eq_none (by simpa using h1)] at h; cases h
set_option maxRecDepth 100000 in
set_option maxHeartbeats 8000000 in
theorem field38_n (P : Nat) (s : ByteArray) (hs : s.size ≤ 4000) (a f : Nat) (w : World) (h : SD w P s a 2 f) (ha : a ≤ s.size) (hf : f ≤ a) (o : List UInt8) (q aq : Nat) (HTOK : Hid (dm.tok 3 (s.data.toList.drop a) = (o, q))) (HAQ : Hid (a + q = aq)) (hq1 : a ≤ aq) (hq2 : aq ≤ s.size) (HV : Hid (utf.V o = true)) (HON : Hid (¬ o = [])) (H61 : Hid (s.data.toList[aq]? = some 61)) (a2 : Nat) (HA2 : Hid (aq + 1 = a2)) (HNO : Hid (s.data.toList[a2]? = none)) :
    Calls Tryz.prog 38 #[.pointer (some ⟨P, 0, none⟩)] w (FdOut P s (dm.fieldM s.data.toList ⟨a, 2, f⟩) w) := by
  obtain ⟨W, hW⟩ : ∃ W, (w.alloc (.cells #[.string ⟨#[]⟩, .int .i64 0, .string ⟨#[]⟩] 76)).alloc (.cells #[.bool false, .int .i64 0, .int .i64 0, .bool false] 39) = W := ⟨_, rfl⟩
  have H0 : Hid (FS w P s (w.heap.size + 1) [.bool false, .int .i64 0, .int .i64 0, .bool false] w.heap.size [.string ⟨#[]⟩, .int .i64 0, .string ⟨#[]⟩] 76 a 2 f W) := Lib.hid (hW ▸ FS.start2 h _ _ (by simp))
  have hPl := Rw.lt h
  obtain ⟨X, hXn⟩ : ∃ X, w.heap.size = X := ⟨_, rfl⟩
  rw [hXn] at H0
  obtain ⟨R, hRn⟩ : ∃ R, X + 1 = R := ⟨_, rfl⟩
  rw [hRn] at H0
  obtain ⟨⟨cp0_1, cp1_1, cp2_1, cp3_1⟩, ⟨zp1_1, zp2_1, zp3_1⟩, hq_1, ⟨zr0_1, zr1_1, zr2_1, zr3_1⟩, hx_1, hz_1⟩ := H0.out.cells
  obtain ⟨yr0_1, yr1_1, yr2_1, yr3_1⟩ := four_at hq_1
  have xx0_1 := hx_1 0 _ rfl
  have xz0_1 := hz_1 0 (by simp)
  have xx1_1 := hx_1 1 _ rfl
  have xz1_1 := hz_1 1 (by simp)
  have xx2_1 := hx_1 2 _ rfl
  have xz2_1 := hz_1 2 (by simp)
  clear hq_1 hx_1 hz_1
  have HSK := Lib.hid (H0.out.skip (t := 2) (by decide) (by decide) (by decide) (by decide))
  clear h
  obtain ⟨l, k, HLK⟩ := place_to s.data.toList f a
  have hlt : aq < s.size := at_lt H61.out
  have hw1 : IntKind.i64.wrap ((aq : Int) + 1) = (a2 : Int) := by have := HA2.out; rw [IntKind.wrap_i64]; omega
  have hle2 : a2 ≤ s.size := by have := HA2.out; omega
  have hf2 : f ≤ a2 := by have := HA2.out; omega
  obtain ⟨l2, k2, HLK2⟩ := place_to s.data.toList f a2
  go_enter Tryz.func38, Tryz.ntmps38
  go_wp2_with fail
  refine HSK.out.mono ?_
  rintro e w1 ⟨rfl, HF1⟩
  clear hW HSK
  clear cp0_1 cp1_1 cp2_1 cp3_1 zp1_1 zp2_1 zp3_1 zr0_1 zr1_1 zr2_1 zr3_1 yr0_1 yr1_1 yr2_1 yr3_1 xx0_1 xz0_1 xx1_1 xz1_1 xx2_1 xz2_1
  obtain ⟨⟨cp0_2, cp1_2, cp2_2, cp3_2⟩, ⟨zp1_2, zp2_2, zp3_2⟩, hq_2, ⟨zr0_2, zr1_2, zr2_2, zr3_2⟩, hx_2, hz_2⟩ := HF1.out.cells
  obtain ⟨yr0_2, yr1_2, yr2_2, yr3_2⟩ := four_at hq_2
  have xx0_2 := hx_2 0 _ rfl
  have xz0_2 := hz_2 0 (by simp)
  have xx1_2 := hx_2 1 _ rfl
  have xz1_2 := hz_2 1 (by simp)
  have xx2_2 := hx_2 2 _ rfl
  have xz2_2 := hz_2 2 (by simp)
  clear hq_2 hx_2 hz_2
  obtain ⟨W3, hW3, hF3⟩ := HF1.out.four rfl (.bool false) (.int .i64 0) (.int .i64 0) (.bool false)
  have HF3 := Lib.hid hF3
  clear hF3
  obtain ⟨⟨cp0_4, cp1_4, cp2_4, cp3_4⟩, ⟨zp1_4, zp2_4, zp3_4⟩, hq_4, ⟨zr0_4, zr1_4, zr2_4, zr3_4⟩, hx_4, hz_4⟩ := HF3.out.cells
  obtain ⟨yr0_4, yr1_4, yr2_4, yr3_4⟩ := four_at hq_4
  have xx0_4 := hx_4 0 _ rfl
  have xz0_4 := hz_4 0 (by simp)
  have xx1_4 := hx_4 1 _ rfl
  have xz1_4 := hz_4 1 (by simp)
  have xx2_4 := hx_4 2 _ rfl
  have xz2_4 := hz_4 2 (by simp)
  clear hq_4 hx_4 hz_4
  have HTK := Lib.hid (HF3.out.token hs ha hf (k := 3) (by decide) HTOK.out HAQ.out HLK.out)
  go_wp2_with fail
  refine HTK.out.mono ?_
  rintro e wt hT
  clear HTK
  clear cp0_2 cp1_2 cp2_2 cp3_2 zp1_2 zp2_2 zp3_2 zr0_2 zr1_2 zr2_2 zr3_2 yr0_2 yr1_2 yr2_2 yr3_2 xx0_2 xz0_2 xx1_2 xz1_2 xx2_2 xz2_2 hW3 cp0_4 cp1_4 cp2_4 cp3_4 zp1_4 zp2_4 zp3_4 zr0_4 zr1_4 zr2_4 zr3_4 yr0_4 yr1_4 yr2_4 yr3_4 xx0_4 xz0_4 xx1_4 xz1_4 xx2_4 xz2_4
  rcases hT with ⟨hv, rfl, HFA⟩ | ⟨hv, rfl, HFA⟩
  rotate_left
  · exact absurd (HV.out.symm.trans hv) (by decide)
  clear hv
  obtain ⟨⟨cp0_5, cp1_5, cp2_5, cp3_5⟩, ⟨zp1_5, zp2_5, zp3_5⟩, hq_5, ⟨zr0_5, zr1_5, zr2_5, zr3_5⟩, hx_5, hz_5⟩ := HFA.out.cells
  obtain ⟨yr0_5, yr1_5, yr2_5, yr3_5⟩ := four_at hq_5
  have xx0_5 := hx_5 0 _ rfl
  have xz0_5 := hz_5 0 (by simp)
  have xx1_5 := hx_5 1 _ rfl
  have xz1_5 := hz_5 1 (by simp)
  have xx2_5 := hx_5 2 _ rfl
  have xz2_5 := hz_5 2 (by simp)
  clear hq_5 hx_5 hz_5
  obtain ⟨W6, hW6, hF6⟩ := HFA.out.putx (by simp) 0 (.string ⟨o.toArray⟩)
  have HF6 := Lib.hid hF6
  clear hF6
  obtain ⟨⟨cp0_7, cp1_7, cp2_7, cp3_7⟩, ⟨zp1_7, zp2_7, zp3_7⟩, hq_7, ⟨zr0_7, zr1_7, zr2_7, zr3_7⟩, hx_7, hz_7⟩ := HF6.out.cells
  obtain ⟨yr0_7, yr1_7, yr2_7, yr3_7⟩ := four_at hq_7
  have xx0_7 := hx_7 0 _ rfl
  have xz0_7 := hz_7 0 (by simp)
  have xx1_7 := hx_7 1 _ rfl
  have xz1_7 := hz_7 1 (by simp)
  have xx2_7 := hx_7 2 _ rfl
  have xz2_7 := hz_7 2 (by simp)
  clear hq_7 hx_7 hz_7
  obtain ⟨W8, hW8, hF8⟩ := HF6.out.four rfl (.bool false) (.int .i64 0) (.int .i64 0) (.bool false)
  have HF8 := Lib.hid hF8
  clear hF8
  obtain ⟨⟨cp0_9, cp1_9, cp2_9, cp3_9⟩, ⟨zp1_9, zp2_9, zp3_9⟩, hq_9, ⟨zr0_9, zr1_9, zr2_9, zr3_9⟩, hx_9, hz_9⟩ := HF8.out.cells
  obtain ⟨yr0_9, yr1_9, yr2_9, yr3_9⟩ := four_at hq_9
  have xx0_9 := hx_9 0 _ rfl
  have xz0_9 := hz_9 0 (by simp)
  have xx1_9 := hx_9 1 _ rfl
  have xz1_9 := hz_9 1 (by simp)
  have xx2_9 := hx_9 2 _ rfl
  have xz2_9 := hz_9 2 (by simp)
  clear hq_9 hx_9 hz_9
  have hsb : o.isEmpty = false := by simpa using HON.out
  have hi : (aq : Int) < (s.size : Int) := by omega
  have HD := Lib.hid (HF8.out.doneQ (b := false) (by simpa using hlt))
  obtain ⟨c, hc⟩ : ∃ c, s[aq]'hlt = c := ⟨_, rfl⟩
  have hcb := c.toNat_lt
  have hz : (c.toNat : Int) = 61 := by have h1 := byteS hlt; rw [hc, H61.out] at h1; rw [show c = 61 by simpa using h1.symm]; rfl
  have hzb : ((c.toNat : Int) != 61) = false := by rw [hz]; rfl
  go_wp2_with fail
  go_quiet ((go_at_call 35; (with_reducible refine (HD.out _).mono ?_); rintro e w2 ⟨rfl, q, rfl⟩; exact ⟨rfl, _, rfl⟩))
  have HF10 := Lib.hid (HF8.out.drew nq)
  revert HF10
  generalize World.drewN _ nq = wq10
  intro HF10
  clear cp0_5 cp1_5 cp2_5 cp3_5 zp1_5 zp2_5 zp3_5 zr0_5 zr1_5 zr2_5 zr3_5 yr0_5 yr1_5 yr2_5 yr3_5 xx0_5 xz0_5 xx1_5 xz1_5 xx2_5 xz2_5 hW6 cp0_7 cp1_7 cp2_7 cp3_7 zp1_7 zp2_7 zp3_7 zr0_7 zr1_7 zr2_7 zr3_7 yr0_7 yr1_7 yr2_7 yr3_7 xx0_7 xz0_7 xx1_7 xz1_7 xx2_7 xz2_7 hW8 cp0_9 cp1_9 cp2_9 cp3_9 zp1_9 zp2_9 zp3_9 zr0_9 zr1_9 zr2_9 zr3_9 yr0_9 yr1_9 yr2_9 yr3_9 xx0_9 xz0_9 xx1_9 xz1_9 xx2_9 xz2_9
  obtain ⟨⟨cp0_11, cp1_11, cp2_11, cp3_11⟩, ⟨zp1_11, zp2_11, zp3_11⟩, hq_11, ⟨zr0_11, zr1_11, zr2_11, zr3_11⟩, hx_11, hz_11⟩ := HF10.out.cells
  obtain ⟨yr0_11, yr1_11, yr2_11, yr3_11⟩ := four_at hq_11
  have xx0_11 := hx_11 0 _ rfl
  have xz0_11 := hz_11 0 (by simp)
  have xx1_11 := hx_11 1 _ rfl
  have xz1_11 := hz_11 1 (by simp)
  have xx2_11 := hx_11 2 _ rfl
  have xz2_11 := hz_11 2 (by simp)
  clear hq_11 hx_11 hz_11
  clear hz hzb hcb HD hi
  obtain ⟨W12, hW12, hF12⟩ := HF10.out.set a2
  have HF12 := Lib.hid hF12
  clear hF12
  obtain ⟨⟨cp0_13, cp1_13, cp2_13, cp3_13⟩, ⟨zp1_13, zp2_13, zp3_13⟩, hq_13, ⟨zr0_13, zr1_13, zr2_13, zr3_13⟩, hx_13, hz_13⟩ := HF12.out.cells
  obtain ⟨yr0_13, yr1_13, yr2_13, yr3_13⟩ := four_at hq_13
  have xx0_13 := hx_13 0 _ rfl
  have xz0_13 := hz_13 0 (by simp)
  have xx1_13 := hx_13 1 _ rfl
  have xz1_13 := hz_13 1 (by simp)
  have xx2_13 := hx_13 2 _ rfl
  have xz2_13 := hz_13 2 (by simp)
  clear hq_13 hx_13 hz_13
  have HD2 := Lib.hid (HF12.out.done (b := true) (by simpa using HNO.out))
  go_wp2_with fail
  clear hc
  refine HD2.out.mono ?_
  rintro e w4 ⟨rfl, HF4d⟩
  clear HD2
  clear cp0_11 cp1_11 cp2_11 cp3_11 zp1_11 zp2_11 zp3_11 zr0_11 zr1_11 zr2_11 zr3_11 yr0_11 yr1_11 yr2_11 yr3_11 xx0_11 xz0_11 xx1_11 xz1_11 xx2_11 xz2_11 hW12 cp0_13 cp1_13 cp2_13 cp3_13 zp1_13 zp2_13 zp3_13 zr0_13 zr1_13 zr2_13 zr3_13 yr0_13 yr1_13 yr2_13 yr3_13 xx0_13 xz0_13 xx1_13 xz1_13 xx2_13 xz2_13
  obtain ⟨⟨cp0_14, cp1_14, cp2_14, cp3_14⟩, ⟨zp1_14, zp2_14, zp3_14⟩, hq_14, ⟨zr0_14, zr1_14, zr2_14, zr3_14⟩, hx_14, hz_14⟩ := HF4d.out.cells
  obtain ⟨yr0_14, yr1_14, yr2_14, yr3_14⟩ := four_at hq_14
  have xx0_14 := hx_14 0 _ rfl
  have xz0_14 := hz_14 0 (by simp)
  have xx1_14 := hx_14 1 _ rfl
  have xz1_14 := hz_14 1 (by simp)
  have xx2_14 := hx_14 2 _ rfl
  have xz2_14 := hz_14 2 (by simp)
  clear hq_14 hx_14 hz_14
  have HFT15 := Lib.hid (HF4d.out.fault hs (i := a2) hf2 hle2 HLK2.out)
  go_wp2_with fail
  refine HFT15.out.mono ?_
  rintro e wf ⟨rfl, HFf15⟩
  clear HFT15
  clear cp0_14 cp1_14 cp2_14 cp3_14 zp1_14 zp2_14 zp3_14 zr0_14 zr1_14 zr2_14 zr3_14 yr0_14 yr1_14 yr2_14 yr3_14 xx0_14 xz0_14 xx1_14 xz1_14 xx2_14 xz2_14
  obtain ⟨⟨cp0_16, cp1_16, cp2_16, cp3_16⟩, ⟨zp1_16, zp2_16, zp3_16⟩, hq_16, ⟨zr0_16, zr1_16, zr2_16, zr3_16⟩, hx_16, hz_16⟩ := HFf15.out.cells
  obtain ⟨yr0_16, yr1_16, yr2_16, yr3_16⟩ := four_at hq_16
  have xx0_16 := hx_16 0 _ rfl
  have xz0_16 := hz_16 0 (by simp)
  have xx1_16 := hx_16 1 _ rfl
  have xz1_16 := hz_16 1 (by simp)
  have xx2_16 := hx_16 2 _ rfl
  have xz2_16 := hz_16 2 (by simp)
  clear hq_16 hx_16 hz_16
  obtain ⟨W17, hW17, hF17⟩ := HFf15.out.putx (by simp) 0 (.string ⟨#[]⟩)
  have HF17 := Lib.hid hF17
  clear hF17
  obtain ⟨⟨cp0_18, cp1_18, cp2_18, cp3_18⟩, ⟨zp1_18, zp2_18, zp3_18⟩, hq_18, ⟨zr0_18, zr1_18, zr2_18, zr3_18⟩, hx_18, hz_18⟩ := HF17.out.cells
  obtain ⟨yr0_18, yr1_18, yr2_18, yr3_18⟩ := four_at hq_18
  have xx0_18 := hx_18 0 _ rfl
  have xz0_18 := hz_18 0 (by simp)
  have xx1_18 := hx_18 1 _ rfl
  have xz1_18 := hz_18 1 (by simp)
  have xx2_18 := hx_18 2 _ rfl
  have xz2_18 := hz_18 2 (by simp)
  clear hq_18 hx_18 hz_18
  obtain ⟨W19, hW19, hF19⟩ := HF17.out.putx (by simp) 1 (.int .i64 0)
  have HF19 := Lib.hid hF19
  clear hF19
  obtain ⟨⟨cp0_20, cp1_20, cp2_20, cp3_20⟩, ⟨zp1_20, zp2_20, zp3_20⟩, hq_20, ⟨zr0_20, zr1_20, zr2_20, zr3_20⟩, hx_20, hz_20⟩ := HF19.out.cells
  obtain ⟨yr0_20, yr1_20, yr2_20, yr3_20⟩ := four_at hq_20
  have xx0_20 := hx_20 0 _ rfl
  have xz0_20 := hz_20 0 (by simp)
  have xx1_20 := hx_20 1 _ rfl
  have xz1_20 := hz_20 1 (by simp)
  have xx2_20 := hx_20 2 _ rfl
  have xz2_20 := hz_20 2 (by simp)
  clear hq_20 hx_20 hz_20
  obtain ⟨W21, hW21, hF21⟩ := HF19.out.putx (by simp) 2 (.string ⟨#[]⟩)
  have HF21 := Lib.hid hF21
  clear hF21
  obtain ⟨⟨cp0_22, cp1_22, cp2_22, cp3_22⟩, ⟨zp1_22, zp2_22, zp3_22⟩, hq_22, ⟨zr0_22, zr1_22, zr2_22, zr3_22⟩, hx_22, hz_22⟩ := HF21.out.cells
  obtain ⟨yr0_22, yr1_22, yr2_22, yr3_22⟩ := four_at hq_22
  have xx0_22 := hx_22 0 _ rfl
  have xz0_22 := hz_22 0 (by simp)
  have xx1_22 := hx_22 1 _ rfl
  have xz1_22 := hz_22 1 (by simp)
  have xx2_22 := hx_22 2 _ rfl
  have xz2_22 := hz_22 2 (by simp)
  clear hq_22 hx_22 hz_22
  obtain ⟨W23, hW23, hF23⟩ := HF21.out.four rfl (.bool true) (.int .i64 l2) (.int .i64 k2) (.bool false)
  have HF23 := Lib.hid hF23
  clear hF23
  obtain ⟨⟨cp0_24, cp1_24, cp2_24, cp3_24⟩, ⟨zp1_24, zp2_24, zp3_24⟩, hq_24, ⟨zr0_24, zr1_24, zr2_24, zr3_24⟩, hx_24, hz_24⟩ := HF23.out.cells
  obtain ⟨yr0_24, yr1_24, yr2_24, yr3_24⟩ := four_at hq_24
  have xx0_24 := hx_24 0 _ rfl
  have xz0_24 := hz_24 0 (by simp)
  have xx1_24 := hx_24 1 _ rfl
  have xz1_24 := hz_24 1 (by simp)
  have xx2_24 := hx_24 2 _ rfl
  have xz2_24 := hz_24 2 (by simp)
  clear hq_24 hx_24 hz_24
  go_wp2_with fail
  refine bodyPost_ret (v := .tuple #[.agg #[.string ⟨#[]⟩, .int .i64 0, .string ⟨#[]⟩], .bool false, .agg #[.bool true, .int .i64 l2, .int .i64 k2, .bool false]]) (by simp [results, Tryz.results38, go_sem, yr0_24, yr1_24, yr2_24, yr3_24, xx0_24, xx1_24, xx2_24]) rfl ?_
  exact .inr (.inr ⟨l2, k2, rfl, Lib.hid (FltAt.of (p := 2) HF23.out.at_ HLK2.out (f_b3 HTOK.out HAQ.out HV.out HON.out H61.out HA2.out (v_n HNO.out)))⟩)
end Go.Proofs.YtlcbcgillekphaaGreatDoor.sd
