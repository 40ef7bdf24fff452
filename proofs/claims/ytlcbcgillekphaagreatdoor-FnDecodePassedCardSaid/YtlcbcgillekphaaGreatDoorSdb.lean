/-
  Proved: the contract of the reference's Field.
  Conditions: a text of at most 4000 bytes.
-/
import Derived.Test.YtlcbcgillekphaaGreatDoorSda
import Derived.Deep.CutBlock
namespace Go.Proofs.YtlcbcgillekphaaGreatDoor.sd
open Go.RowKit Mem rw ent
set_option linter.unusedVariables false
set_option linter.unusedSimpArgs false

section
variable {T : List UInt8} {a f q aq a2 q2 a3 a4 i n kd x2 x3 x4 : Nat} {o u t : List UInt8} {c : UInt8} {m : dm.M}
theorem f_b1 (h1 : dm.tok 3 (T.drop a) = (o, q)) (h2 : a + q = aq) (h3 : utf.V o = false ∨ o = []) : dm.fieldM T ⟨a, 2, f⟩ = dm.flt T ⟨aq, 2, f⟩ a := by
  subst h2
  cases h4 : utf.V o with
  | false => simp [dm.fieldM, h1, h4]
  | true => rcases h3 with h3 | h3
            · rw [h4] at h3; cases h3
            · simp [dm.fieldM, h1, h4, h3]
theorem f_b2 (h1 : dm.tok 3 (T.drop a) = (o, q)) (h2 : a + q = aq) (h3 : utf.V o = true) (h4 : ¬ o = []) (h5 : ¬ T[aq]? = some 61) : dm.fieldM T ⟨a, 2, f⟩ = dm.flt T ⟨aq, 2, f⟩ aq := by
  subst h2; simp [dm.fieldM, h1, h3, h4, h5]
theorem f_b3 (h1 : dm.tok 3 (T.drop a) = (o, q)) (h2 : a + q = aq) (h3 : utf.V o = true) (h4 : ¬ o = []) (h5 : T[aq]? = some 61) (h6 : aq + 1 = a2) (h7 : dm.valueM T ⟨a2, 2, f⟩ = (.inl i, m)) : dm.fieldM T ⟨a, 2, f⟩ = dm.flt T m i := by
  subst h2; subst h6; simp [dm.fieldM, h1, h3, h4, h5, h7]
theorem f_b4 (h1 : dm.tok 3 (T.drop a) = (o, q)) (h2 : a + q = aq) (h3 : utf.V o = true) (h4 : ¬ o = []) (h5 : T[aq]? = some 61) (h6 : aq + 1 = a2) (h7 : dm.valueM T ⟨a2, 2, f⟩ = (.inr (kd, u), ⟨x2, 2, f⟩)) (h8 : dm.afterM T ⟨x2, 2, f⟩ = (some i, m)) : dm.fieldM T ⟨a, 2, f⟩ = dm.flt T m i := by
  subst h2; subst h6; simp [dm.fieldM, h1, h3, h4, h5, h7, h8]
theorem f_s (h1 : dm.tok 3 (T.drop a) = (o, q)) (h2 : a + q = aq) (h3 : utf.V o = true) (h4 : ¬ o = []) (h5 : T[aq]? = some 61) (h6 : aq + 1 = a2) (h7 : dm.valueM T ⟨a2, 2, f⟩ = (.inr (kd, u), ⟨x2, 2, f⟩)) (h8 : dm.afterM T ⟨x2, 2, f⟩ = (none, m)) : dm.fieldM T ⟨a, 2, f⟩ = (.some (o, kd, u), m) := by
  subst h2; subst h6; simp [dm.fieldM, h1, h3, h4, h5, h7, h8]
theorem v_n (h : T[a]? = none) : dm.valueM T ⟨a, 2, f⟩ = (.inl a, ⟨a, 2, f⟩) := by simp [dm.valueM, h]
theorem v_q1 (h : T[a]? = some 34) (h1 : a + 1 = a3) (h2 : dm.tok 4 (T.drop a3) = (t, q)) (h3 : a3 + q = a4) (h4 : utf.V t = false) : dm.valueM T ⟨a, 2, f⟩ = (.inl a3, ⟨a4, 2, f⟩) := by
  subst h1; subst h3; simp [dm.valueM, h, h2, h4]
theorem v_q2 (h : T[a]? = some 34) (h1 : a + 1 = a3) (h2 : dm.tok 4 (T.drop a3) = (t, q)) (h3 : a3 + q = a4) (h4 : utf.V t = true) (h5 : T.length ≤ a4) : dm.valueM T ⟨a, 2, f⟩ = (.inl a, ⟨a4, 2, f⟩) := by
  subst h1; subst h3; simp [dm.valueM, h, h2, h4, h5]
theorem v_q3 (h : T[a]? = some 34) (h1 : a + 1 = a3) (h2 : dm.tok 4 (T.drop a3) = (t, q)) (h3 : a3 + q = a4) (h4 : utf.V t = true) (h5 : ¬ T.length ≤ a4) (h6 : a4 + 1 = x2) : dm.valueM T ⟨a, 2, f⟩ = (.inr (1, t), ⟨x2, 2, f⟩) := by
  subst h1; subst h3; subst h6; simp [dm.valueM, h, h2, h4, h5]
theorem v_b (h : T[a]? = some c) (h0 : ¬ c = 34) (h1 : c = 116 ∨ c = 84 ∨ c = 102 ∨ c = 70) (h2 : n = dm.runN (dm.inS 9) (T.drop a)) (h3 : a + n = x2) (h4 : (T.drop a).take n = u) : dm.valueM T ⟨a, 2, f⟩ = (.inr (5, u), ⟨x2, 2, f⟩) := by
  subst h3; subst h4; subst h2; simp [dm.valueM, h, h0, h1]
theorem v_d (h : T[a]? = some c) (h0 : ¬ c = 34) (h1 : ¬ (c = 116 ∨ c = 84 ∨ c = 102 ∨ c = 70)) (h2 : ¬ (c = 45 ∨ c = 46 ∨ (48 ≤ c.toNat ∧ c.toNat ≤ 57))) : dm.valueM T ⟨a, 2, f⟩ = (.inl a, ⟨a, 2, f⟩) := by
  unfold dm.valueM; simp only [h]; rw [if_neg h0]; simp only [if_neg h1, if_neg h2]
theorem v_i (h : T[a]? = some c) (h0 : ¬ c = 34) (h1 : ¬ (c = 116 ∨ c = 84 ∨ c = 102 ∨ c = 70)) (h2 : c = 45 ∨ c = 46 ∨ (48 ≤ c.toNat ∧ c.toNat ≤ 57)) (h3 : n = dm.runN (dm.inS 9) (T.drop a)) (h4 : a + n = x2) (h5 : (T.drop a).take n = u) (h6 : u.getLast? = some 105) : dm.valueM T ⟨a, 2, f⟩ = (.inr (2, u.dropLast), ⟨x2, 2, f⟩) := by
  subst h4; subst h5; subst h3; unfold dm.valueM; simp only [h]; rw [if_neg h0]; simp only [if_neg h1, if_pos h2, if_pos h6]
theorem v_u (h : T[a]? = some c) (h0 : ¬ c = 34) (h1 : ¬ (c = 116 ∨ c = 84 ∨ c = 102 ∨ c = 70)) (h2 : c = 45 ∨ c = 46 ∨ (48 ≤ c.toNat ∧ c.toNat ≤ 57)) (h3 : n = dm.runN (dm.inS 9) (T.drop a)) (h4 : a + n = x2) (h5 : (T.drop a).take n = u) (h6 : ¬ u.getLast? = some 105) (h7 : u.getLast? = some 117) : dm.valueM T ⟨a, 2, f⟩ = (.inr (3, u.dropLast), ⟨x2, 2, f⟩) := by
  subst h4; subst h5; subst h3; unfold dm.valueM; simp only [h]; rw [if_neg h0]; simp only [if_neg h1, if_pos h2, if_neg h6, if_pos h7]
theorem v_f (h : T[a]? = some c) (h0 : ¬ c = 34) (h1 : ¬ (c = 116 ∨ c = 84 ∨ c = 102 ∨ c = 70)) (h2 : c = 45 ∨ c = 46 ∨ (48 ≤ c.toNat ∧ c.toNat ≤ 57)) (h3 : n = dm.runN (dm.inS 9) (T.drop a)) (h4 : a + n = x2) (h5 : (T.drop a).take n = u) (h6 : ¬ u.getLast? = some 105) (h7 : ¬ u.getLast? = some 117) : dm.valueM T ⟨a, 2, f⟩ = (.inr (4, u), ⟨x2, 2, f⟩) := by
  subst h4; subst h5; subst h3; unfold dm.valueM; simp only [h]; rw [if_neg h0]; simp only [if_neg h1, if_pos h2, if_neg h6, if_neg h7]
theorem a_n (h : T[x2]? = none) : dm.afterM T ⟨x2, 2, f⟩ = (none, ⟨x2, 5, f⟩) := by simp [dm.afterM, h]
theorem a_c (h : T[x2]? = some 44) (h1 : x2 + 1 = x3) : dm.afterM T ⟨x2, 2, f⟩ = (none, ⟨x3, 2, f⟩) := by subst h1; simp [dm.afterM, h]
theorem a_b (h : T[x2]? = some c) (h0 : ¬ c = 44) (h1 : dm.white c = false) : dm.afterM T ⟨x2, 2, f⟩ = (some x2, ⟨x2, 2, f⟩) := by simp [dm.afterM, h, h0, h1]
theorem a_e (h : T[x2]? = some c) (h0 : ¬ c = 44) (h1 : dm.white c = true) (h2 : n = dm.runN (dm.inS 0) (T.drop x2)) (h3 : x2 + n = x3) (h4 : dm.eol (T.drop x3) = some q) (h5 : x3 + q = x4) : dm.afterM T ⟨x2, 2, f⟩ = (none, ⟨x4, 5, f⟩) := by
  subst h3; subst h2; subst h5; simp [dm.afterM, h, h0, h1, h4]
theorem a_t (h : T[x2]? = some c) (h0 : ¬ c = 44) (h1 : dm.white c = true) (h2 : n = dm.runN (dm.inS 0) (T.drop x2)) (h3 : x2 + n = x3) (h4 : dm.eol (T.drop x3) = none) (h5 : q = 0) (h6 : x3 + q = x4) : dm.afterM T ⟨x2, 2, f⟩ = (none, ⟨x4, 3, f⟩) := by
  subst h3; subst h2; subst h5; subst h6; simp [dm.afterM, h, h0, h1, h4]
/-- A run that starts: its bytes, its last byte. -/
theorem run_last (h : T[a]? = some c) (h1 : dm.inS 9 c = true) (h2 : n = dm.runN (dm.inS 9) (T.drop a)) (h3 : (T.drop a).take n = u) :
    u.length = n ∧ ∃ k, n = k + 1 ∧ ∃ (hk : k < (⟨u.toArray⟩ : ByteArray).size) (d : UInt8), (⟨u.toArray⟩ : ByteArray)[k]'hk = d ∧ u.getLast? = some d ∧ (⟨u.toArray⟩ : ByteArray).extract 0 k = ⟨u.dropLast.toArray⟩ := by
  have hle := dm.runN_le (dm.inS 9) (T.drop a)
  have hlt : a < T.length := by
    rcases Nat.lt_or_ge a T.length with hh | hh
    · exact hh
    · rw [List.getElem?_eq_none hh] at h; cases h
  have hlen : u.length = n := by rw [← h3, List.length_take]; omega
  have hpos : n ≠ 0 := by
    rw [h2, List.drop_eq_getElem_cons hlt]
    unfold dm.runN
    have : T[a] = c := by rw [List.getElem?_eq_getElem hlt] at h; simpa using h
    rw [this, List.takeWhile_cons_of_pos h1]
    simp
  obtain ⟨k, hk⟩ : ∃ k, n = k + 1 := ⟨n - 1, by omega⟩
  have hks : k < (⟨u.toArray⟩ : ByteArray).size := by show k < u.toArray.size; simp; omega
  refine ⟨hlen, k, hk, hks, _, rfl, ?_, ?_⟩
  · rw [List.getLast?_eq_getElem?, hlen, hk, Nat.add_sub_cancel, List.getElem?_eq_getElem (by omega)]
    rfl
  · have : ((⟨u.toArray⟩ : ByteArray).extract 0 k).data.toList = u.dropLast := by
      rw [ByteArray.data_extract, Array.toList_extract]
      simp [List.extract, List.dropLast_eq_take, hlen, hk]
    cases h2 : (⟨u.toArray⟩ : ByteArray).extract 0 k with
    | mk d => rw [h2] at this; simp only at this; rw [← this]
end
theorem runs9 {c : UInt8} (h : c = 116 ∨ c = 84 ∨ c = 102 ∨ c = 70 ∨ c = 45 ∨ c = 46 ∨ (48 ≤ c.toNat ∧ c.toNat ≤ 57)) : dm.inS 9 c = true := by
  have : c.toNat = 116 ∨ c.toNat = 84 ∨ c.toNat = 102 ∨ c.toNat = 70 ∨ c.toNat = 45 ∨ c.toNat = 46 ∨ (48 ≤ c.toNat ∧ c.toNat ≤ 57) := by
    rcases h with rfl | rfl | rfl | rfl | rfl | rfl | h
    all_goals first | decide | (simp; done) | (right; right; right; right; right; right; exact h)
  simp [dm.inS, dm.white]
  omega
def FdOut (P : Nat) (s : ByteArray) (r : dm.Res (List UInt8 × Nat × List UInt8) × dm.M) (w : World) (e : Ending) (w' : World) : Prop :=
  (∃ a' p' f', r = (.none, ⟨a', p', f'⟩) ∧ e = .returned (.tuple #[.agg #[.string ⟨#[]⟩, .int .i64 0, .string ⟨#[]⟩], .bool false, .agg #[.bool false, .int .i64 0, .int .i64 0, .bool false]]) ∧ Hid (At w P s a' p' f' w')) ∨
  (∃ o kd u a' p' f', r = (.some (o, kd, u), ⟨a', p', f'⟩) ∧ e = .returned (.tuple #[.agg #[.string (strB o), .int .i64 (kd : Nat), .string (strB u)], .bool true, .agg #[.bool false, .int .i64 0, .int .i64 0, .bool false]]) ∧ Hid (At w P s a' p' f' w')) ∨
  (∃ l k, e = .returned (.tuple #[.agg #[.string ⟨#[]⟩, .int .i64 0, .string ⟨#[]⟩], .bool false, .agg #[.bool true, .int .i64 (l : Nat), .int .i64 (k : Nat), .bool false]]) ∧ Hid (FltAt P s r w w' l k))
set_option maxRecDepth 100000 in
set_option maxHeartbeats 8000000 in
theorem field38n3 (P : Nat) (s : ByteArray) (hs : s.size ≤ 4000) (a f : Nat) (w : World) (h : SD w P s a 3 f) (ha : a ≤ s.size) (hf : f ≤ a) :
    Calls Tryz.prog 38 #[.pointer (some ⟨P, 0, none⟩)] w (FdOut P s (dm.fieldM s.data.toList ⟨a, 3, f⟩) w) := by
  obtain ⟨W, hW⟩ : ∃ W, (w.alloc (.cells #[.string ⟨#[]⟩, .int .i64 0, .string ⟨#[]⟩] 76)).alloc (.cells #[.bool false, .int .i64 0, .int .i64 0, .bool false] 39) = W := ⟨_, rfl⟩
  have H0 : Hid (FS w P s (w.heap.size + 1) [.bool false, .int .i64 0, .int .i64 0, .bool false] w.heap.size [.string ⟨#[]⟩, .int .i64 0, .string ⟨#[]⟩] 76 a 3 f W) := Lib.hid (hW ▸ FS.start2 h _ _ (by simp))
  have hPl := Rw.lt h
  obtain ⟨X, hXn⟩ : ∃ X, w.heap.size = X := ⟨_, rfl⟩
  rw [hXn] at H0
  obtain ⟨R, hRn⟩ : ∃ R, X + 1 = R := ⟨_, rfl⟩
  rw [hRn] at H0
  obtain ⟨⟨cp0_1, cp1_1, cp2_1, cp3_1⟩, ⟨zp1_1, zp2_1, zp3_1⟩, hq_1, ⟨zr0_1, zr1_1, zr2_1, zr3_1⟩, hx_1, hz_1⟩ := H0.out.cells
  obtain ⟨yr0_1, yr1_1, yr2_1, yr3_1⟩ := four_at hq_1
  have xx0_1 := hx_1 0 _ rfl
  have xz0_1 := hz_1 0 (by simp)
  have xx1_1 := hx_1 1 _ rfl
  have xz1_1 := hz_1 1 (by simp)
  have xx2_1 := hx_1 2 _ rfl
  have xz2_1 := hz_1 2 (by simp)
  clear hq_1 hx_1 hz_1
  have HSK := Lib.hid (H0.out.skip (t := 2) (by decide) (by decide) (by decide) (by decide))
  clear h
  go_enter Tryz.func38, Tryz.ntmps38
  go_wp2_with fail
  refine HSK.out.mono ?_
  rintro e w1 ⟨rfl, HF1⟩
  clear hW
  clear cp0_1 cp1_1 cp2_1 cp3_1 zp1_1 zp2_1 zp3_1 zr0_1 zr1_1 zr2_1 zr3_1 yr0_1 yr1_1 yr2_1 yr3_1 xx0_1 xz0_1 xx1_1 xz1_1 xx2_1 xz2_1
  obtain ⟨⟨cp0_2, cp1_2, cp2_2, cp3_2⟩, ⟨zp1_2, zp2_2, zp3_2⟩, hq_2, ⟨zr0_2, zr1_2, zr2_2, zr3_2⟩, hx_2, hz_2⟩ := HF1.out.cells
  obtain ⟨yr0_2, yr1_2, yr2_2, yr3_2⟩ := four_at hq_2
  have xx0_2 := hx_2 0 _ rfl
  have xz0_2 := hz_2 0 (by simp)
  have xx1_2 := hx_2 1 _ rfl
  have xz1_2 := hz_2 1 (by simp)
  have xx2_2 := hx_2 2 _ rfl
  have xz2_2 := hz_2 2 (by simp)
  clear hq_2 hx_2 hz_2
  obtain ⟨W3, hW3, hF3⟩ := HF1.out.four rfl (.bool false) (.int .i64 0) (.int .i64 0) (.bool false)
  have HF3 := Lib.hid hF3
  clear hF3
  obtain ⟨⟨cp0_4, cp1_4, cp2_4, cp3_4⟩, ⟨zp1_4, zp2_4, zp3_4⟩, hq_4, ⟨zr0_4, zr1_4, zr2_4, zr3_4⟩, hx_4, hz_4⟩ := HF3.out.cells
  obtain ⟨yr0_4, yr1_4, yr2_4, yr3_4⟩ := four_at hq_4
  have xx0_4 := hx_4 0 _ rfl
  have xz0_4 := hz_4 0 (by simp)
  have xx1_4 := hx_4 1 _ rfl
  have xz1_4 := hz_4 1 (by simp)
  have xx2_4 := hx_4 2 _ rfl
  have xz2_4 := hz_4 2 (by simp)
  clear hq_4 hx_4 hz_4
  obtain ⟨W5, hW5, hF5⟩ := HF3.out.putx (by simp) 0 (.string ⟨#[]⟩)
  have HF5 := Lib.hid hF5
  clear hF5
  obtain ⟨⟨cp0_6, cp1_6, cp2_6, cp3_6⟩, ⟨zp1_6, zp2_6, zp3_6⟩, hq_6, ⟨zr0_6, zr1_6, zr2_6, zr3_6⟩, hx_6, hz_6⟩ := HF5.out.cells
  obtain ⟨yr0_6, yr1_6, yr2_6, yr3_6⟩ := four_at hq_6
  have xx0_6 := hx_6 0 _ rfl
  have xz0_6 := hz_6 0 (by simp)
  have xx1_6 := hx_6 1 _ rfl
  have xz1_6 := hz_6 1 (by simp)
  have xx2_6 := hx_6 2 _ rfl
  have xz2_6 := hz_6 2 (by simp)
  clear hq_6 hx_6 hz_6
  obtain ⟨W7, hW7, hF7⟩ := HF5.out.putx (by simp) 1 (.int .i64 0)
  have HF7 := Lib.hid hF7
  clear hF7
  obtain ⟨⟨cp0_8, cp1_8, cp2_8, cp3_8⟩, ⟨zp1_8, zp2_8, zp3_8⟩, hq_8, ⟨zr0_8, zr1_8, zr2_8, zr3_8⟩, hx_8, hz_8⟩ := HF7.out.cells
  obtain ⟨yr0_8, yr1_8, yr2_8, yr3_8⟩ := four_at hq_8
  have xx0_8 := hx_8 0 _ rfl
  have xz0_8 := hz_8 0 (by simp)
  have xx1_8 := hx_8 1 _ rfl
  have xz1_8 := hz_8 1 (by simp)
  have xx2_8 := hx_8 2 _ rfl
  have xz2_8 := hz_8 2 (by simp)
  clear hq_8 hx_8 hz_8
  obtain ⟨W9, hW9, hF9⟩ := HF7.out.putx (by simp) 2 (.string ⟨#[]⟩)
  have HF9 := Lib.hid hF9
  clear hF9
  obtain ⟨⟨cp0_10, cp1_10, cp2_10, cp3_10⟩, ⟨zp1_10, zp2_10, zp3_10⟩, hq_10, ⟨zr0_10, zr1_10, zr2_10, zr3_10⟩, hx_10, hz_10⟩ := HF9.out.cells
  obtain ⟨yr0_10, yr1_10, yr2_10, yr3_10⟩ := four_at hq_10
  have xx0_10 := hx_10 0 _ rfl
  have xz0_10 := hz_10 0 (by simp)
  have xx1_10 := hx_10 1 _ rfl
  have xz1_10 := hz_10 1 (by simp)
  have xx2_10 := hx_10 2 _ rfl
  have xz2_10 := hz_10 2 (by simp)
  clear hq_10 hx_10 hz_10
  obtain ⟨W11, hW11, hF11⟩ := HF9.out.four rfl (.bool false) (.int .i64 0) (.int .i64 0) (.bool false)
  have HF11 := Lib.hid hF11
  clear hF11
  obtain ⟨⟨cp0_12, cp1_12, cp2_12, cp3_12⟩, ⟨zp1_12, zp2_12, zp3_12⟩, hq_12, ⟨zr0_12, zr1_12, zr2_12, zr3_12⟩, hx_12, hz_12⟩ := HF11.out.cells
  obtain ⟨yr0_12, yr1_12, yr2_12, yr3_12⟩ := four_at hq_12
  have xx0_12 := hx_12 0 _ rfl
  have xz0_12 := hz_12 0 (by simp)
  have xx1_12 := hx_12 1 _ rfl
  have xz1_12 := hz_12 1 (by simp)
  have xx2_12 := hx_12 2 _ rfl
  have xz2_12 := hz_12 2 (by simp)
  clear hq_12 hx_12 hz_12
  go_wp2_with fail
  go_region
  go_wp2_with fail
  refine bodyPost_ret (v := .tuple #[.agg #[.string ⟨#[]⟩, .int .i64 0, .string ⟨#[]⟩], .bool false, .agg #[.bool false, .int .i64 0, .int .i64 0, .bool false]]) (by simp [results, Tryz.results38, go_sem, yr0_12, yr1_12, yr2_12, yr3_12, xx0_12, xx1_12, xx2_12]) rfl ?_
  exact .inl ⟨_, _, _, by simp [dm.fieldM], rfl, Lib.hid (HF11.out.at_.quiet (But.drew (But.refl [] _)))⟩
set_option maxRecDepth 100000 in
set_option maxHeartbeats 8000000 in
theorem field38n5 (P : Nat) (s : ByteArray) (hs : s.size ≤ 4000) (a f : Nat) (w : World) (h : SD w P s a 5 f) (ha : a ≤ s.size) (hf : f ≤ a) :
    Calls Tryz.prog 38 #[.pointer (some ⟨P, 0, none⟩)] w (FdOut P s (dm.fieldM s.data.toList ⟨a, 5, f⟩) w) := by
  obtain ⟨W, hW⟩ : ∃ W, (w.alloc (.cells #[.string ⟨#[]⟩, .int .i64 0, .string ⟨#[]⟩] 76)).alloc (.cells #[.bool false, .int .i64 0, .int .i64 0, .bool false] 39) = W := ⟨_, rfl⟩
  have H0 : Hid (FS w P s (w.heap.size + 1) [.bool false, .int .i64 0, .int .i64 0, .bool false] w.heap.size [.string ⟨#[]⟩, .int .i64 0, .string ⟨#[]⟩] 76 a 5 f W) := Lib.hid (hW ▸ FS.start2 h _ _ (by simp))
  have hPl := Rw.lt h
  obtain ⟨X, hXn⟩ : ∃ X, w.heap.size = X := ⟨_, rfl⟩
  rw [hXn] at H0
  obtain ⟨R, hRn⟩ : ∃ R, X + 1 = R := ⟨_, rfl⟩
  rw [hRn] at H0
  obtain ⟨⟨cp0_1, cp1_1, cp2_1, cp3_1⟩, ⟨zp1_1, zp2_1, zp3_1⟩, hq_1, ⟨zr0_1, zr1_1, zr2_1, zr3_1⟩, hx_1, hz_1⟩ := H0.out.cells
  obtain ⟨yr0_1, yr1_1, yr2_1, yr3_1⟩ := four_at hq_1
  have xx0_1 := hx_1 0 _ rfl
  have xz0_1 := hz_1 0 (by simp)
  have xx1_1 := hx_1 1 _ rfl
  have xz1_1 := hz_1 1 (by simp)
  have xx2_1 := hx_1 2 _ rfl
  have xz2_1 := hz_1 2 (by simp)
  clear hq_1 hx_1 hz_1
  have HSK := Lib.hid (H0.out.skip (t := 2) (by decide) (by decide) (by decide) (by decide))
  clear h
  go_enter Tryz.func38, Tryz.ntmps38
  go_wp2_with fail
  refine HSK.out.mono ?_
  rintro e w1 ⟨rfl, HF1⟩
  clear hW
  clear cp0_1 cp1_1 cp2_1 cp3_1 zp1_1 zp2_1 zp3_1 zr0_1 zr1_1 zr2_1 zr3_1 yr0_1 yr1_1 yr2_1 yr3_1 xx0_1 xz0_1 xx1_1 xz1_1 xx2_1 xz2_1
  obtain ⟨⟨cp0_2, cp1_2, cp2_2, cp3_2⟩, ⟨zp1_2, zp2_2, zp3_2⟩, hq_2, ⟨zr0_2, zr1_2, zr2_2, zr3_2⟩, hx_2, hz_2⟩ := HF1.out.cells
  obtain ⟨yr0_2, yr1_2, yr2_2, yr3_2⟩ := four_at hq_2
  have xx0_2 := hx_2 0 _ rfl
  have xz0_2 := hz_2 0 (by simp)
  have xx1_2 := hx_2 1 _ rfl
  have xz1_2 := hz_2 1 (by simp)
  have xx2_2 := hx_2 2 _ rfl
  have xz2_2 := hz_2 2 (by simp)
  clear hq_2 hx_2 hz_2
  obtain ⟨W3, hW3, hF3⟩ := HF1.out.four rfl (.bool false) (.int .i64 0) (.int .i64 0) (.bool false)
  have HF3 := Lib.hid hF3
  clear hF3
  obtain ⟨⟨cp0_4, cp1_4, cp2_4, cp3_4⟩, ⟨zp1_4, zp2_4, zp3_4⟩, hq_4, ⟨zr0_4, zr1_4, zr2_4, zr3_4⟩, hx_4, hz_4⟩ := HF3.out.cells
  obtain ⟨yr0_4, yr1_4, yr2_4, yr3_4⟩ := four_at hq_4
  have xx0_4 := hx_4 0 _ rfl
  have xz0_4 := hz_4 0 (by simp)
  have xx1_4 := hx_4 1 _ rfl
  have xz1_4 := hz_4 1 (by simp)
  have xx2_4 := hx_4 2 _ rfl
  have xz2_4 := hz_4 2 (by simp)
  clear hq_4 hx_4 hz_4
  obtain ⟨W5, hW5, hF5⟩ := HF3.out.putx (by simp) 0 (.string ⟨#[]⟩)
  have HF5 := Lib.hid hF5
  clear hF5
  obtain ⟨⟨cp0_6, cp1_6, cp2_6, cp3_6⟩, ⟨zp1_6, zp2_6, zp3_6⟩, hq_6, ⟨zr0_6, zr1_6, zr2_6, zr3_6⟩, hx_6, hz_6⟩ := HF5.out.cells
  obtain ⟨yr0_6, yr1_6, yr2_6, yr3_6⟩ := four_at hq_6
  have xx0_6 := hx_6 0 _ rfl
  have xz0_6 := hz_6 0 (by simp)
  have xx1_6 := hx_6 1 _ rfl
  have xz1_6 := hz_6 1 (by simp)
  have xx2_6 := hx_6 2 _ rfl
  have xz2_6 := hz_6 2 (by simp)
  clear hq_6 hx_6 hz_6
  obtain ⟨W7, hW7, hF7⟩ := HF5.out.putx (by simp) 1 (.int .i64 0)
  have HF7 := Lib.hid hF7
  clear hF7
  obtain ⟨⟨cp0_8, cp1_8, cp2_8, cp3_8⟩, ⟨zp1_8, zp2_8, zp3_8⟩, hq_8, ⟨zr0_8, zr1_8, zr2_8, zr3_8⟩, hx_8, hz_8⟩ := HF7.out.cells
  obtain ⟨yr0_8, yr1_8, yr2_8, yr3_8⟩ := four_at hq_8
  have xx0_8 := hx_8 0 _ rfl
  have xz0_8 := hz_8 0 (by simp)
  have xx1_8 := hx_8 1 _ rfl
  have xz1_8 := hz_8 1 (by simp)
  have xx2_8 := hx_8 2 _ rfl
  have xz2_8 := hz_8 2 (by simp)
  clear hq_8 hx_8 hz_8
  obtain ⟨W9, hW9, hF9⟩ := HF7.out.putx (by simp) 2 (.string ⟨#[]⟩)
  have HF9 := Lib.hid hF9
  clear hF9
  obtain ⟨⟨cp0_10, cp1_10, cp2_10, cp3_10⟩, ⟨zp1_10, zp2_10, zp3_10⟩, hq_10, ⟨zr0_10, zr1_10, zr2_10, zr3_10⟩, hx_10, hz_10⟩ := HF9.out.cells
  obtain ⟨yr0_10, yr1_10, yr2_10, yr3_10⟩ := four_at hq_10
  have xx0_10 := hx_10 0 _ rfl
  have xz0_10 := hz_10 0 (by simp)
  have xx1_10 := hx_10 1 _ rfl
  have xz1_10 := hz_10 1 (by simp)
  have xx2_10 := hx_10 2 _ rfl
  have xz2_10 := hz_10 2 (by simp)
  clear hq_10 hx_10 hz_10
  obtain ⟨W11, hW11, hF11⟩ := HF9.out.four rfl (.bool false) (.int .i64 0) (.int .i64 0) (.bool false)
  have HF11 := Lib.hid hF11
  clear hF11
  obtain ⟨⟨cp0_12, cp1_12, cp2_12, cp3_12⟩, ⟨zp1_12, zp2_12, zp3_12⟩, hq_12, ⟨zr0_12, zr1_12, zr2_12, zr3_12⟩, hx_12, hz_12⟩ := HF11.out.cells
  obtain ⟨yr0_12, yr1_12, yr2_12, yr3_12⟩ := four_at hq_12
  have xx0_12 := hx_12 0 _ rfl
  have xz0_12 := hz_12 0 (by simp)
  have xx1_12 := hx_12 1 _ rfl
  have xz1_12 := hz_12 1 (by simp)
  have xx2_12 := hx_12 2 _ rfl
  have xz2_12 := hz_12 2 (by simp)
  clear hq_12 hx_12 hz_12
  go_wp2_with fail
  go_region
  go_wp2_with fail
  refine bodyPost_ret (v := .tuple #[.agg #[.string ⟨#[]⟩, .int .i64 0, .string ⟨#[]⟩], .bool false, .agg #[.bool false, .int .i64 0, .int .i64 0, .bool false]]) (by simp [results, Tryz.results38, go_sem, yr0_12, yr1_12, yr2_12, yr3_12, xx0_12, xx1_12, xx2_12]) rfl ?_
  exact .inl ⟨_, _, _, by simp [dm.fieldM], rfl, Lib.hid (HF11.out.at_.quiet (But.drew (But.refl [] _)))⟩
set_option maxRecDepth 100000 in
set_option maxHeartbeats 8000000 in
theorem field38_e (P : Nat) (s : ByteArray) (hs : s.size ≤ 4000) (a f : Nat) (w : World) (h : SD w P s a 2 f) (ha : a ≤ s.size) (hf : f ≤ a) (o : List UInt8) (q aq : Nat) (HTOK : Hid (dm.tok 3 (s.data.toList.drop a) = (o, q))) (HAQ : Hid (a + q = aq)) (hq1 : a ≤ aq) (hq2 : aq ≤ s.size) (HE : Hid (¬ (utf.V o = true ∧ ¬ o = [] ∧ s.data.toList[aq]? = some 61))) :
    Calls Tryz.prog 38 #[.pointer (some ⟨P, 0, none⟩)] w (FdOut P s (dm.fieldM s.data.toList ⟨a, 2, f⟩) w) := by
  obtain ⟨W, hW⟩ : ∃ W, (w.alloc (.cells #[.string ⟨#[]⟩, .int .i64 0, .string ⟨#[]⟩] 76)).alloc (.cells #[.bool false, .int .i64 0, .int .i64 0, .bool false] 39) = W := ⟨_, rfl⟩
  have H0 : Hid (FS w P s (w.heap.size + 1) [.bool false, .int .i64 0, .int .i64 0, .bool false] w.heap.size [.string ⟨#[]⟩, .int .i64 0, .string ⟨#[]⟩] 76 a 2 f W) := Lib.hid (hW ▸ FS.start2 h _ _ (by simp))
  have hPl := Rw.lt h
  obtain ⟨X, hXn⟩ : ∃ X, w.heap.size = X := ⟨_, rfl⟩
  rw [hXn] at H0
  obtain ⟨R, hRn⟩ : ∃ R, X + 1 = R := ⟨_, rfl⟩
  rw [hRn] at H0
  obtain ⟨⟨cp0_1, cp1_1, cp2_1, cp3_1⟩, ⟨zp1_1, zp2_1, zp3_1⟩, hq_1, ⟨zr0_1, zr1_1, zr2_1, zr3_1⟩, hx_1, hz_1⟩ := H0.out.cells
  obtain ⟨yr0_1, yr1_1, yr2_1, yr3_1⟩ := four_at hq_1
  have xx0_1 := hx_1 0 _ rfl
  have xz0_1 := hz_1 0 (by simp)
  have xx1_1 := hx_1 1 _ rfl
  have xz1_1 := hz_1 1 (by simp)
  have xx2_1 := hx_1 2 _ rfl
  have xz2_1 := hz_1 2 (by simp)
  clear hq_1 hx_1 hz_1
  have HSK := Lib.hid (H0.out.skip (t := 2) (by decide) (by decide) (by decide) (by decide))
  clear h
  obtain ⟨l, k, HLK⟩ := place_to s.data.toList f a
  have hfq : f ≤ aq := by omega
  go_enter Tryz.func38, Tryz.ntmps38
  go_wp2_with fail
  refine HSK.out.mono ?_
  rintro e w1 ⟨rfl, HF1⟩
  clear hW HSK
  clear cp0_1 cp1_1 cp2_1 cp3_1 zp1_1 zp2_1 zp3_1 zr0_1 zr1_1 zr2_1 zr3_1 yr0_1 yr1_1 yr2_1 yr3_1 xx0_1 xz0_1 xx1_1 xz1_1 xx2_1 xz2_1
  obtain ⟨⟨cp0_2, cp1_2, cp2_2, cp3_2⟩, ⟨zp1_2, zp2_2, zp3_2⟩, hq_2, ⟨zr0_2, zr1_2, zr2_2, zr3_2⟩, hx_2, hz_2⟩ := HF1.out.cells
  obtain ⟨yr0_2, yr1_2, yr2_2, yr3_2⟩ := four_at hq_2
  have xx0_2 := hx_2 0 _ rfl
  have xz0_2 := hz_2 0 (by simp)
  have xx1_2 := hx_2 1 _ rfl
  have xz1_2 := hz_2 1 (by simp)
  have xx2_2 := hx_2 2 _ rfl
  have xz2_2 := hz_2 2 (by simp)
  clear hq_2 hx_2 hz_2
  obtain ⟨W3, hW3, hF3⟩ := HF1.out.four rfl (.bool false) (.int .i64 0) (.int .i64 0) (.bool false)
  have HF3 := Lib.hid hF3
  clear hF3
  obtain ⟨⟨cp0_4, cp1_4, cp2_4, cp3_4⟩, ⟨zp1_4, zp2_4, zp3_4⟩, hq_4, ⟨zr0_4, zr1_4, zr2_4, zr3_4⟩, hx_4, hz_4⟩ := HF3.out.cells
  obtain ⟨yr0_4, yr1_4, yr2_4, yr3_4⟩ := four_at hq_4
  have xx0_4 := hx_4 0 _ rfl
  have xz0_4 := hz_4 0 (by simp)
  have xx1_4 := hx_4 1 _ rfl
  have xz1_4 := hz_4 1 (by simp)
  have xx2_4 := hx_4 2 _ rfl
  have xz2_4 := hz_4 2 (by simp)
  clear hq_4 hx_4 hz_4
  have HTK := Lib.hid (HF3.out.token hs ha hf (k := 3) (by decide) HTOK.out HAQ.out HLK.out)
  go_wp2_with fail
  refine HTK.out.mono ?_
  rintro e wt hT
  clear HTK
  clear cp0_2 cp1_2 cp2_2 cp3_2 zp1_2 zp2_2 zp3_2 zr0_2 zr1_2 zr2_2 zr3_2 yr0_2 yr1_2 yr2_2 yr3_2 xx0_2 xz0_2 xx1_2 xz1_2 xx2_2 xz2_2 hW3 cp0_4 cp1_4 cp2_4 cp3_4 zp1_4 zp2_4 zp3_4 zr0_4 zr1_4 zr2_4 zr3_4 yr0_4 yr1_4 yr2_4 yr3_4 xx0_4 xz0_4 xx1_4 xz1_4 xx2_4 xz2_4
  rcases hT with ⟨hv, rfl, HFA⟩ | ⟨hv, rfl, HFA⟩
  rotate_left
  · have HV := Lib.hid hv
    clear hv
    obtain ⟨⟨cp0_5, cp1_5, cp2_5, cp3_5⟩, ⟨zp1_5, zp2_5, zp3_5⟩, hq_5, ⟨zr0_5, zr1_5, zr2_5, zr3_5⟩, hx_5, hz_5⟩ := HFA.out.cells
    obtain ⟨yr0_5, yr1_5, yr2_5, yr3_5⟩ := four_at hq_5
    have xx0_5 := hx_5 0 _ rfl
    have xz0_5 := hz_5 0 (by simp)
    have xx1_5 := hx_5 1 _ rfl
    have xz1_5 := hz_5 1 (by simp)
    have xx2_5 := hx_5 2 _ rfl
    have xz2_5 := hz_5 2 (by simp)
    clear hq_5 hx_5 hz_5
    obtain ⟨W6, hW6, hF6⟩ := HFA.out.putx (by simp) 0 (.string ⟨#[]⟩)
    have HF6 := Lib.hid hF6
    clear hF6
    obtain ⟨⟨cp0_7, cp1_7, cp2_7, cp3_7⟩, ⟨zp1_7, zp2_7, zp3_7⟩, hq_7, ⟨zr0_7, zr1_7, zr2_7, zr3_7⟩, hx_7, hz_7⟩ := HF6.out.cells
    obtain ⟨yr0_7, yr1_7, yr2_7, yr3_7⟩ := four_at hq_7
    have xx0_7 := hx_7 0 _ rfl
    have xz0_7 := hz_7 0 (by simp)
    have xx1_7 := hx_7 1 _ rfl
    have xz1_7 := hz_7 1 (by simp)
    have xx2_7 := hx_7 2 _ rfl
    have xz2_7 := hz_7 2 (by simp)
    clear hq_7 hx_7 hz_7
    obtain ⟨W8, hW8, hF8⟩ := HF6.out.four rfl (.bool true) (.int .i64 l) (.int .i64 k) (.bool false)
    have HF8 := Lib.hid hF8
    clear hF8
    obtain ⟨⟨cp0_9, cp1_9, cp2_9, cp3_9⟩, ⟨zp1_9, zp2_9, zp3_9⟩, hq_9, ⟨zr0_9, zr1_9, zr2_9, zr3_9⟩, hx_9, hz_9⟩ := HF8.out.cells
    obtain ⟨yr0_9, yr1_9, yr2_9, yr3_9⟩ := four_at hq_9
    have xx0_9 := hx_9 0 _ rfl
    have xz0_9 := hz_9 0 (by simp)
    have xx1_9 := hx_9 1 _ rfl
    have xz1_9 := hz_9 1 (by simp)
    have xx2_9 := hx_9 2 _ rfl
    have xz2_9 := hz_9 2 (by simp)
    clear hq_9 hx_9 hz_9
    obtain ⟨W10, hW10, hF10⟩ := HF8.out.putx (by simp) 0 (.string ⟨#[]⟩)
    have HF10 := Lib.hid hF10
    clear hF10
    obtain ⟨⟨cp0_11, cp1_11, cp2_11, cp3_11⟩, ⟨zp1_11, zp2_11, zp3_11⟩, hq_11, ⟨zr0_11, zr1_11, zr2_11, zr3_11⟩, hx_11, hz_11⟩ := HF10.out.cells
    obtain ⟨yr0_11, yr1_11, yr2_11, yr3_11⟩ := four_at hq_11
    have xx0_11 := hx_11 0 _ rfl
    have xz0_11 := hz_11 0 (by simp)
    have xx1_11 := hx_11 1 _ rfl
    have xz1_11 := hz_11 1 (by simp)
    have xx2_11 := hx_11 2 _ rfl
    have xz2_11 := hz_11 2 (by simp)
    clear hq_11 hx_11 hz_11
    obtain ⟨W12, hW12, hF12⟩ := HF10.out.putx (by simp) 1 (.int .i64 0)
    have HF12 := Lib.hid hF12
    clear hF12
    obtain ⟨⟨cp0_13, cp1_13, cp2_13, cp3_13⟩, ⟨zp1_13, zp2_13, zp3_13⟩, hq_13, ⟨zr0_13, zr1_13, zr2_13, zr3_13⟩, hx_13, hz_13⟩ := HF12.out.cells
    obtain ⟨yr0_13, yr1_13, yr2_13, yr3_13⟩ := four_at hq_13
    have xx0_13 := hx_13 0 _ rfl
    have xz0_13 := hz_13 0 (by simp)
    have xx1_13 := hx_13 1 _ rfl
    have xz1_13 := hz_13 1 (by simp)
    have xx2_13 := hx_13 2 _ rfl
    have xz2_13 := hz_13 2 (by simp)
    clear hq_13 hx_13 hz_13
    obtain ⟨W14, hW14, hF14⟩ := HF12.out.putx (by simp) 2 (.string ⟨#[]⟩)
    have HF14 := Lib.hid hF14
    clear hF14
    obtain ⟨⟨cp0_15, cp1_15, cp2_15, cp3_15⟩, ⟨zp1_15, zp2_15, zp3_15⟩, hq_15, ⟨zr0_15, zr1_15, zr2_15, zr3_15⟩, hx_15, hz_15⟩ := HF14.out.cells
    obtain ⟨yr0_15, yr1_15, yr2_15, yr3_15⟩ := four_at hq_15
    have xx0_15 := hx_15 0 _ rfl
    have xz0_15 := hz_15 0 (by simp)
    have xx1_15 := hx_15 1 _ rfl
    have xz1_15 := hz_15 1 (by simp)
    have xx2_15 := hx_15 2 _ rfl
    have xz2_15 := hz_15 2 (by simp)
    clear hq_15 hx_15 hz_15
    obtain ⟨W16, hW16, hF16⟩ := HF14.out.four rfl (.bool true) (.int .i64 l) (.int .i64 k) (.bool false)
    have HF16 := Lib.hid hF16
    clear hF16
    obtain ⟨⟨cp0_17, cp1_17, cp2_17, cp3_17⟩, ⟨zp1_17, zp2_17, zp3_17⟩, hq_17, ⟨zr0_17, zr1_17, zr2_17, zr3_17⟩, hx_17, hz_17⟩ := HF16.out.cells
    obtain ⟨yr0_17, yr1_17, yr2_17, yr3_17⟩ := four_at hq_17
    have xx0_17 := hx_17 0 _ rfl
    have xz0_17 := hz_17 0 (by simp)
    have xx1_17 := hx_17 1 _ rfl
    have xz1_17 := hz_17 1 (by simp)
    have xx2_17 := hx_17 2 _ rfl
    have xz2_17 := hz_17 2 (by simp)
    clear hq_17 hx_17 hz_17
    go_wp2_with fail
    go_region
    go_wp2_with fail
    refine bodyPost_ret (v := .tuple #[.agg #[.string ⟨#[]⟩, .int .i64 0, .string ⟨#[]⟩], .bool false, .agg #[.bool true, .int .i64 l, .int .i64 k, .bool false]]) (by simp [results, Tryz.results38, go_sem, yr0_17, yr1_17, yr2_17, yr3_17, xx0_17, xx1_17, xx2_17]) rfl ?_
    exact .inr (.inr ⟨l, k, rfl, Lib.hid (FltAt.of (p := 2) (HF16.out.at_.quiet (But.drew (But.refl [] _))) HLK.out (f_b1 HTOK.out HAQ.out (.inl HV.out)))⟩)
  have HV := Lib.hid hv
  clear hv
  obtain ⟨⟨cp0_18, cp1_18, cp2_18, cp3_18⟩, ⟨zp1_18, zp2_18, zp3_18⟩, hq_18, ⟨zr0_18, zr1_18, zr2_18, zr3_18⟩, hx_18, hz_18⟩ := HFA.out.cells
  obtain ⟨yr0_18, yr1_18, yr2_18, yr3_18⟩ := four_at hq_18
  have xx0_18 := hx_18 0 _ rfl
  have xz0_18 := hz_18 0 (by simp)
  have xx1_18 := hx_18 1 _ rfl
  have xz1_18 := hz_18 1 (by simp)
  have xx2_18 := hx_18 2 _ rfl
  have xz2_18 := hz_18 2 (by simp)
  clear hq_18 hx_18 hz_18
  obtain ⟨W19, hW19, hF19⟩ := HFA.out.putx (by simp) 0 (.string ⟨o.toArray⟩)
  have HF19 := Lib.hid hF19
  clear hF19
  obtain ⟨⟨cp0_20, cp1_20, cp2_20, cp3_20⟩, ⟨zp1_20, zp2_20, zp3_20⟩, hq_20, ⟨zr0_20, zr1_20, zr2_20, zr3_20⟩, hx_20, hz_20⟩ := HF19.out.cells
  obtain ⟨yr0_20, yr1_20, yr2_20, yr3_20⟩ := four_at hq_20
  have xx0_20 := hx_20 0 _ rfl
  have xz0_20 := hz_20 0 (by simp)
  have xx1_20 := hx_20 1 _ rfl
  have xz1_20 := hz_20 1 (by simp)
  have xx2_20 := hx_20 2 _ rfl
  have xz2_20 := hz_20 2 (by simp)
  clear hq_20 hx_20 hz_20
  obtain ⟨W21, hW21, hF21⟩ := HF19.out.four rfl (.bool false) (.int .i64 0) (.int .i64 0) (.bool false)
  have HF21 := Lib.hid hF21
  clear hF21
  obtain ⟨⟨cp0_22, cp1_22, cp2_22, cp3_22⟩, ⟨zp1_22, zp2_22, zp3_22⟩, hq_22, ⟨zr0_22, zr1_22, zr2_22, zr3_22⟩, hx_22, hz_22⟩ := HF21.out.cells
  obtain ⟨yr0_22, yr1_22, yr2_22, yr3_22⟩ := four_at hq_22
  have xx0_22 := hx_22 0 _ rfl
  have xz0_22 := hz_22 0 (by simp)
  have xx1_22 := hx_22 1 _ rfl
  have xz1_22 := hz_22 1 (by simp)
  have xx2_22 := hx_22 2 _ rfl
  have xz2_22 := hz_22 2 (by simp)
  clear hq_22 hx_22 hz_22
  by_cases hon : o = []
  · have HON := Lib.hid hon
    have hsb : o.isEmpty = true := by simpa using hon
    clear hon
    have HFT23 := Lib.hid (HF21.out.fault hs (i := a) hf ha HLK.out)
    go_wp2_with fail
    refine HFT23.out.mono ?_
    rintro e wf ⟨rfl, HFf23⟩
    clear HFT23
    clear cp0_18 cp1_18 cp2_18 cp3_18 zp1_18 zp2_18 zp3_18 zr0_18 zr1_18 zr2_18 zr3_18 yr0_18 yr1_18 yr2_18 yr3_18 xx0_18 xz0_18 xx1_18 xz1_18 xx2_18 xz2_18 hW19 cp0_20 cp1_20 cp2_20 cp3_20 zp1_20 zp2_20 zp3_20 zr0_20 zr1_20 zr2_20 zr3_20 yr0_20 yr1_20 yr2_20 yr3_20 xx0_20 xz0_20 xx1_20 xz1_20 xx2_20 xz2_20 hW21 cp0_22 cp1_22 cp2_22 cp3_22 zp1_22 zp2_22 zp3_22 zr0_22 zr1_22 zr2_22 zr3_22 yr0_22 yr1_22 yr2_22 yr3_22 xx0_22 xz0_22 xx1_22 xz1_22 xx2_22 xz2_22
    obtain ⟨⟨cp0_24, cp1_24, cp2_24, cp3_24⟩, ⟨zp1_24, zp2_24, zp3_24⟩, hq_24, ⟨zr0_24, zr1_24, zr2_24, zr3_24⟩, hx_24, hz_24⟩ := HFf23.out.cells
    obtain ⟨yr0_24, yr1_24, yr2_24, yr3_24⟩ := four_at hq_24
    have xx0_24 := hx_24 0 _ rfl
    have xz0_24 := hz_24 0 (by simp)
    have xx1_24 := hx_24 1 _ rfl
    have xz1_24 := hz_24 1 (by simp)
    have xx2_24 := hx_24 2 _ rfl
    have xz2_24 := hz_24 2 (by simp)
    clear hq_24 hx_24 hz_24
    obtain ⟨W25, hW25, hF25⟩ := HFf23.out.putx (by simp) 0 (.string ⟨#[]⟩)
    have HF25 := Lib.hid hF25
    clear hF25
    obtain ⟨⟨cp0_26, cp1_26, cp2_26, cp3_26⟩, ⟨zp1_26, zp2_26, zp3_26⟩, hq_26, ⟨zr0_26, zr1_26, zr2_26, zr3_26⟩, hx_26, hz_26⟩ := HF25.out.cells
    obtain ⟨yr0_26, yr1_26, yr2_26, yr3_26⟩ := four_at hq_26
    have xx0_26 := hx_26 0 _ rfl
    have xz0_26 := hz_26 0 (by simp)
    have xx1_26 := hx_26 1 _ rfl
    have xz1_26 := hz_26 1 (by simp)
    have xx2_26 := hx_26 2 _ rfl
    have xz2_26 := hz_26 2 (by simp)
    clear hq_26 hx_26 hz_26
    obtain ⟨W27, hW27, hF27⟩ := HF25.out.putx (by simp) 1 (.int .i64 0)
    have HF27 := Lib.hid hF27
    clear hF27
    obtain ⟨⟨cp0_28, cp1_28, cp2_28, cp3_28⟩, ⟨zp1_28, zp2_28, zp3_28⟩, hq_28, ⟨zr0_28, zr1_28, zr2_28, zr3_28⟩, hx_28, hz_28⟩ := HF27.out.cells
    obtain ⟨yr0_28, yr1_28, yr2_28, yr3_28⟩ := four_at hq_28
    have xx0_28 := hx_28 0 _ rfl
    have xz0_28 := hz_28 0 (by simp)
    have xx1_28 := hx_28 1 _ rfl
    have xz1_28 := hz_28 1 (by simp)
    have xx2_28 := hx_28 2 _ rfl
    have xz2_28 := hz_28 2 (by simp)
    clear hq_28 hx_28 hz_28
    obtain ⟨W29, hW29, hF29⟩ := HF27.out.putx (by simp) 2 (.string ⟨#[]⟩)
    have HF29 := Lib.hid hF29
    clear hF29
    obtain ⟨⟨cp0_30, cp1_30, cp2_30, cp3_30⟩, ⟨zp1_30, zp2_30, zp3_30⟩, hq_30, ⟨zr0_30, zr1_30, zr2_30, zr3_30⟩, hx_30, hz_30⟩ := HF29.out.cells
    obtain ⟨yr0_30, yr1_30, yr2_30, yr3_30⟩ := four_at hq_30
    have xx0_30 := hx_30 0 _ rfl
    have xz0_30 := hz_30 0 (by simp)
    have xx1_30 := hx_30 1 _ rfl
    have xz1_30 := hz_30 1 (by simp)
    have xx2_30 := hx_30 2 _ rfl
    have xz2_30 := hz_30 2 (by simp)
    clear hq_30 hx_30 hz_30
    obtain ⟨W31, hW31, hF31⟩ := HF29.out.four rfl (.bool true) (.int .i64 l) (.int .i64 k) (.bool false)
    have HF31 := Lib.hid hF31
    clear hF31
    obtain ⟨⟨cp0_32, cp1_32, cp2_32, cp3_32⟩, ⟨zp1_32, zp2_32, zp3_32⟩, hq_32, ⟨zr0_32, zr1_32, zr2_32, zr3_32⟩, hx_32, hz_32⟩ := HF31.out.cells
    obtain ⟨yr0_32, yr1_32, yr2_32, yr3_32⟩ := four_at hq_32
    have xx0_32 := hx_32 0 _ rfl
    have xz0_32 := hz_32 0 (by simp)
    have xx1_32 := hx_32 1 _ rfl
    have xz1_32 := hz_32 1 (by simp)
    have xx2_32 := hx_32 2 _ rfl
    have xz2_32 := hz_32 2 (by simp)
    clear hq_32 hx_32 hz_32
    go_wp2_with fail
    refine bodyPost_ret (v := .tuple #[.agg #[.string ⟨#[]⟩, .int .i64 0, .string ⟨#[]⟩], .bool false, .agg #[.bool true, .int .i64 l, .int .i64 k, .bool false]]) (by simp [results, Tryz.results38, go_sem, yr0_32, yr1_32, yr2_32, yr3_32, xx0_32, xx1_32, xx2_32]) rfl ?_
    exact .inr (.inr ⟨l, k, rfl, Lib.hid (FltAt.of (p := 2) HF31.out.at_ HLK.out (f_b1 HTOK.out HAQ.out (.inr HON.out)))⟩)
  have HON := Lib.hid hon
  have hsb : o.isEmpty = false := by simpa using hon
  clear hon
  obtain ⟨lq, kq, HLQ⟩ := place_to s.data.toList f aq
  by_cases hlt : aq < s.size
  rotate_left
  · have HD := Lib.hid (HF21.out.doneQ (b := true) (by simpa using hlt))
    have HNO : Hid (s.data.toList[aq]? = none) := Lib.hid (List.getElem?_eq_none (by simpa using hlt))
    go_wp2_with fail
    go_quiet ((go_at_call 35; (with_reducible refine (HD.out _).mono ?_); rintro e w2 ⟨rfl, q, rfl⟩; exact ⟨rfl, _, rfl⟩))
    have HF33 := Lib.hid (HF21.out.drew nq)
    revert HF33
    generalize World.drewN _ nq = wq33
    intro HF33
    clear cp0_18 cp1_18 cp2_18 cp3_18 zp1_18 zp2_18 zp3_18 zr0_18 zr1_18 zr2_18 zr3_18 yr0_18 yr1_18 yr2_18 yr3_18 xx0_18 xz0_18 xx1_18 xz1_18 xx2_18 xz2_18 hW19 cp0_20 cp1_20 cp2_20 cp3_20 zp1_20 zp2_20 zp3_20 zr0_20 zr1_20 zr2_20 zr3_20 yr0_20 yr1_20 yr2_20 yr3_20 xx0_20 xz0_20 xx1_20 xz1_20 xx2_20 xz2_20 hW21 cp0_22 cp1_22 cp2_22 cp3_22 zp1_22 zp2_22 zp3_22 zr0_22 zr1_22 zr2_22 zr3_22 yr0_22 yr1_22 yr2_22 yr3_22 xx0_22 xz0_22 xx1_22 xz1_22 xx2_22 xz2_22
    obtain ⟨⟨cp0_34, cp1_34, cp2_34, cp3_34⟩, ⟨zp1_34, zp2_34, zp3_34⟩, hq_34, ⟨zr0_34, zr1_34, zr2_34, zr3_34⟩, hx_34, hz_34⟩ := HF33.out.cells
    obtain ⟨yr0_34, yr1_34, yr2_34, yr3_34⟩ := four_at hq_34
    have xx0_34 := hx_34 0 _ rfl
    have xz0_34 := hz_34 0 (by simp)
    have xx1_34 := hx_34 1 _ rfl
    have xz1_34 := hz_34 1 (by simp)
    have xx2_34 := hx_34 2 _ rfl
    have xz2_34 := hz_34 2 (by simp)
    clear hq_34 hx_34 hz_34
    have HFT35 := Lib.hid (HF33.out.fault hs (i := aq) hfq hq2 HLQ.out)
    go_wp2_with fail
    refine HFT35.out.mono ?_
    rintro e wf ⟨rfl, HFf35⟩
    clear HFT35
    clear cp0_34 cp1_34 cp2_34 cp3_34 zp1_34 zp2_34 zp3_34 zr0_34 zr1_34 zr2_34 zr3_34 yr0_34 yr1_34 yr2_34 yr3_34 xx0_34 xz0_34 xx1_34 xz1_34 xx2_34 xz2_34
    obtain ⟨⟨cp0_36, cp1_36, cp2_36, cp3_36⟩, ⟨zp1_36, zp2_36, zp3_36⟩, hq_36, ⟨zr0_36, zr1_36, zr2_36, zr3_36⟩, hx_36, hz_36⟩ := HFf35.out.cells
    obtain ⟨yr0_36, yr1_36, yr2_36, yr3_36⟩ := four_at hq_36
    have xx0_36 := hx_36 0 _ rfl
    have xz0_36 := hz_36 0 (by simp)
    have xx1_36 := hx_36 1 _ rfl
    have xz1_36 := hz_36 1 (by simp)
    have xx2_36 := hx_36 2 _ rfl
    have xz2_36 := hz_36 2 (by simp)
    clear hq_36 hx_36 hz_36
    obtain ⟨W37, hW37, hF37⟩ := HFf35.out.putx (by simp) 0 (.string ⟨#[]⟩)
    have HF37 := Lib.hid hF37
    clear hF37
    obtain ⟨⟨cp0_38, cp1_38, cp2_38, cp3_38⟩, ⟨zp1_38, zp2_38, zp3_38⟩, hq_38, ⟨zr0_38, zr1_38, zr2_38, zr3_38⟩, hx_38, hz_38⟩ := HF37.out.cells
    obtain ⟨yr0_38, yr1_38, yr2_38, yr3_38⟩ := four_at hq_38
    have xx0_38 := hx_38 0 _ rfl
    have xz0_38 := hz_38 0 (by simp)
    have xx1_38 := hx_38 1 _ rfl
    have xz1_38 := hz_38 1 (by simp)
    have xx2_38 := hx_38 2 _ rfl
    have xz2_38 := hz_38 2 (by simp)
    clear hq_38 hx_38 hz_38
    obtain ⟨W39, hW39, hF39⟩ := HF37.out.putx (by simp) 1 (.int .i64 0)
    have HF39 := Lib.hid hF39
    clear hF39
    obtain ⟨⟨cp0_40, cp1_40, cp2_40, cp3_40⟩, ⟨zp1_40, zp2_40, zp3_40⟩, hq_40, ⟨zr0_40, zr1_40, zr2_40, zr3_40⟩, hx_40, hz_40⟩ := HF39.out.cells
    obtain ⟨yr0_40, yr1_40, yr2_40, yr3_40⟩ := four_at hq_40
    have xx0_40 := hx_40 0 _ rfl
    have xz0_40 := hz_40 0 (by simp)
    have xx1_40 := hx_40 1 _ rfl
    have xz1_40 := hz_40 1 (by simp)
    have xx2_40 := hx_40 2 _ rfl
    have xz2_40 := hz_40 2 (by simp)
    clear hq_40 hx_40 hz_40
    obtain ⟨W41, hW41, hF41⟩ := HF39.out.putx (by simp) 2 (.string ⟨#[]⟩)
    have HF41 := Lib.hid hF41
    clear hF41
    obtain ⟨⟨cp0_42, cp1_42, cp2_42, cp3_42⟩, ⟨zp1_42, zp2_42, zp3_42⟩, hq_42, ⟨zr0_42, zr1_42, zr2_42, zr3_42⟩, hx_42, hz_42⟩ := HF41.out.cells
    obtain ⟨yr0_42, yr1_42, yr2_42, yr3_42⟩ := four_at hq_42
    have xx0_42 := hx_42 0 _ rfl
    have xz0_42 := hz_42 0 (by simp)
    have xx1_42 := hx_42 1 _ rfl
    have xz1_42 := hz_42 1 (by simp)
    have xx2_42 := hx_42 2 _ rfl
    have xz2_42 := hz_42 2 (by simp)
    clear hq_42 hx_42 hz_42
    obtain ⟨W43, hW43, hF43⟩ := HF41.out.four rfl (.bool true) (.int .i64 lq) (.int .i64 kq) (.bool false)
    have HF43 := Lib.hid hF43
    clear hF43
    obtain ⟨⟨cp0_44, cp1_44, cp2_44, cp3_44⟩, ⟨zp1_44, zp2_44, zp3_44⟩, hq_44, ⟨zr0_44, zr1_44, zr2_44, zr3_44⟩, hx_44, hz_44⟩ := HF43.out.cells
    obtain ⟨yr0_44, yr1_44, yr2_44, yr3_44⟩ := four_at hq_44
    have xx0_44 := hx_44 0 _ rfl
    have xz0_44 := hz_44 0 (by simp)
    have xx1_44 := hx_44 1 _ rfl
    have xz1_44 := hz_44 1 (by simp)
    have xx2_44 := hx_44 2 _ rfl
    have xz2_44 := hz_44 2 (by simp)
    clear hq_44 hx_44 hz_44
    go_wp2_with fail
    refine bodyPost_ret (v := .tuple #[.agg #[.string ⟨#[]⟩, .int .i64 0, .string ⟨#[]⟩], .bool false, .agg #[.bool true, .int .i64 lq, .int .i64 kq, .bool false]]) (by simp [results, Tryz.results38, go_sem, yr0_44, yr1_44, yr2_44, yr3_44, xx0_44, xx1_44, xx2_44]) rfl ?_
    exact .inr (.inr ⟨lq, kq, rfl, Lib.hid (FltAt.of (p := 2) HF43.out.at_ HLQ.out (f_b2 HTOK.out HAQ.out HV.out HON.out (by rw [HNO.out]; simp)))⟩)
  have hi : (aq : Int) < (s.size : Int) := by omega
  have HD := Lib.hid (HF21.out.doneQ (b := false) (by simpa using hlt))
  have hsm := byteS hlt
  obtain ⟨c, hc⟩ : ∃ c, s[aq]'hlt = c := ⟨_, rfl⟩
  rw [hc] at hsm
  have HS := Lib.hid hsm
  have hcb := c.toNat_lt
  clear hsm
  by_cases h61 : c = 61
  rotate_left
  · have hz := cmpN (n := 61) (by decide) h61
    have hzb : ((c.toNat : Int) != 61) = true := by simpa using hz
    have H61 := Lib.hid h61
    clear h61
    go_wp2_with fail
    go_quiet ((go_at_call 35; (with_reducible refine (HD.out _).mono ?_); rintro e w2 ⟨rfl, q, rfl⟩; exact ⟨rfl, _, rfl⟩))
    have HF45 := Lib.hid (HF21.out.drew nq)
    revert HF45
    generalize World.drewN _ nq = wq45
    intro HF45
    clear cp0_18 cp1_18 cp2_18 cp3_18 zp1_18 zp2_18 zp3_18 zr0_18 zr1_18 zr2_18 zr3_18 yr0_18 yr1_18 yr2_18 yr3_18 xx0_18 xz0_18 xx1_18 xz1_18 xx2_18 xz2_18 hW19 cp0_20 cp1_20 cp2_20 cp3_20 zp1_20 zp2_20 zp3_20 zr0_20 zr1_20 zr2_20 zr3_20 yr0_20 yr1_20 yr2_20 yr3_20 xx0_20 xz0_20 xx1_20 xz1_20 xx2_20 xz2_20 hW21 cp0_22 cp1_22 cp2_22 cp3_22 zp1_22 zp2_22 zp3_22 zr0_22 zr1_22 zr2_22 zr3_22 yr0_22 yr1_22 yr2_22 yr3_22 xx0_22 xz0_22 xx1_22 xz1_22 xx2_22 xz2_22
    obtain ⟨⟨cp0_46, cp1_46, cp2_46, cp3_46⟩, ⟨zp1_46, zp2_46, zp3_46⟩, hq_46, ⟨zr0_46, zr1_46, zr2_46, zr3_46⟩, hx_46, hz_46⟩ := HF45.out.cells
    obtain ⟨yr0_46, yr1_46, yr2_46, yr3_46⟩ := four_at hq_46
    have xx0_46 := hx_46 0 _ rfl
    have xz0_46 := hz_46 0 (by simp)
    have xx1_46 := hx_46 1 _ rfl
    have xz1_46 := hz_46 1 (by simp)
    have xx2_46 := hx_46 2 _ rfl
    have xz2_46 := hz_46 2 (by simp)
    clear hq_46 hx_46 hz_46
    have HFT47 := Lib.hid (HF45.out.fault hs (i := aq) hfq hq2 HLQ.out)
    go_wp2_with fail
    refine HFT47.out.mono ?_
    rintro e wf ⟨rfl, HFf47⟩
    clear HFT47
    clear cp0_46 cp1_46 cp2_46 cp3_46 zp1_46 zp2_46 zp3_46 zr0_46 zr1_46 zr2_46 zr3_46 yr0_46 yr1_46 yr2_46 yr3_46 xx0_46 xz0_46 xx1_46 xz1_46 xx2_46 xz2_46
    obtain ⟨⟨cp0_48, cp1_48, cp2_48, cp3_48⟩, ⟨zp1_48, zp2_48, zp3_48⟩, hq_48, ⟨zr0_48, zr1_48, zr2_48, zr3_48⟩, hx_48, hz_48⟩ := HFf47.out.cells
    obtain ⟨yr0_48, yr1_48, yr2_48, yr3_48⟩ := four_at hq_48
    have xx0_48 := hx_48 0 _ rfl
    have xz0_48 := hz_48 0 (by simp)
    have xx1_48 := hx_48 1 _ rfl
    have xz1_48 := hz_48 1 (by simp)
    have xx2_48 := hx_48 2 _ rfl
    have xz2_48 := hz_48 2 (by simp)
    clear hq_48 hx_48 hz_48
    obtain ⟨W49, hW49, hF49⟩ := HFf47.out.putx (by simp) 0 (.string ⟨#[]⟩)
    have HF49 := Lib.hid hF49
    clear hF49
    obtain ⟨⟨cp0_50, cp1_50, cp2_50, cp3_50⟩, ⟨zp1_50, zp2_50, zp3_50⟩, hq_50, ⟨zr0_50, zr1_50, zr2_50, zr3_50⟩, hx_50, hz_50⟩ := HF49.out.cells
    obtain ⟨yr0_50, yr1_50, yr2_50, yr3_50⟩ := four_at hq_50
    have xx0_50 := hx_50 0 _ rfl
    have xz0_50 := hz_50 0 (by simp)
    have xx1_50 := hx_50 1 _ rfl
    have xz1_50 := hz_50 1 (by simp)
    have xx2_50 := hx_50 2 _ rfl
    have xz2_50 := hz_50 2 (by simp)
    clear hq_50 hx_50 hz_50
    obtain ⟨W51, hW51, hF51⟩ := HF49.out.putx (by simp) 1 (.int .i64 0)
    have HF51 := Lib.hid hF51
    clear hF51
    obtain ⟨⟨cp0_52, cp1_52, cp2_52, cp3_52⟩, ⟨zp1_52, zp2_52, zp3_52⟩, hq_52, ⟨zr0_52, zr1_52, zr2_52, zr3_52⟩, hx_52, hz_52⟩ := HF51.out.cells
    obtain ⟨yr0_52, yr1_52, yr2_52, yr3_52⟩ := four_at hq_52
    have xx0_52 := hx_52 0 _ rfl
    have xz0_52 := hz_52 0 (by simp)
    have xx1_52 := hx_52 1 _ rfl
    have xz1_52 := hz_52 1 (by simp)
    have xx2_52 := hx_52 2 _ rfl
    have xz2_52 := hz_52 2 (by simp)
    clear hq_52 hx_52 hz_52
    obtain ⟨W53, hW53, hF53⟩ := HF51.out.putx (by simp) 2 (.string ⟨#[]⟩)
    have HF53 := Lib.hid hF53
    clear hF53
    obtain ⟨⟨cp0_54, cp1_54, cp2_54, cp3_54⟩, ⟨zp1_54, zp2_54, zp3_54⟩, hq_54, ⟨zr0_54, zr1_54, zr2_54, zr3_54⟩, hx_54, hz_54⟩ := HF53.out.cells
    obtain ⟨yr0_54, yr1_54, yr2_54, yr3_54⟩ := four_at hq_54
    have xx0_54 := hx_54 0 _ rfl
    have xz0_54 := hz_54 0 (by simp)
    have xx1_54 := hx_54 1 _ rfl
    have xz1_54 := hz_54 1 (by simp)
    have xx2_54 := hx_54 2 _ rfl
    have xz2_54 := hz_54 2 (by simp)
    clear hq_54 hx_54 hz_54
    obtain ⟨W55, hW55, hF55⟩ := HF53.out.four rfl (.bool true) (.int .i64 lq) (.int .i64 kq) (.bool false)
    have HF55 := Lib.hid hF55
    clear hF55
    obtain ⟨⟨cp0_56, cp1_56, cp2_56, cp3_56⟩, ⟨zp1_56, zp2_56, zp3_56⟩, hq_56, ⟨zr0_56, zr1_56, zr2_56, zr3_56⟩, hx_56, hz_56⟩ := HF55.out.cells
    obtain ⟨yr0_56, yr1_56, yr2_56, yr3_56⟩ := four_at hq_56
    have xx0_56 := hx_56 0 _ rfl
    have xz0_56 := hz_56 0 (by simp)
    have xx1_56 := hx_56 1 _ rfl
    have xz1_56 := hz_56 1 (by simp)
    have xx2_56 := hx_56 2 _ rfl
    have xz2_56 := hz_56 2 (by simp)
    clear hq_56 hx_56 hz_56
    go_wp2_with fail
    refine bodyPost_ret (v := .tuple #[.agg #[.string ⟨#[]⟩, .int .i64 0, .string ⟨#[]⟩], .bool false, .agg #[.bool true, .int .i64 lq, .int .i64 kq, .bool false]]) (by simp [results, Tryz.results38, go_sem, yr0_56, yr1_56, yr2_56, yr3_56, xx0_56, xx1_56, xx2_56]) rfl ?_
    exact .inr (.inr ⟨lq, kq, rfl, Lib.hid (FltAt.of (p := 2) HF55.out.at_ HLQ.out (f_b2 HTOK.out HAQ.out HV.out HON.out (by rw [HS.out]; simpa using H61.out)))⟩)
  have H61 : Hid (s.data.toList[aq]? = some 61) := Lib.hid (by rw [HS.out, h61])
  exact absurd HE.out (fun hh => hh ⟨HV.out, HON.out, H61.out⟩)
end Go.Proofs.YtlcbcgillekphaaGreatDoor.sd
