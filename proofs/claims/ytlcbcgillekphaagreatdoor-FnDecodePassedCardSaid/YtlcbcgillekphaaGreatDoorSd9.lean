/-
  Proved: the contract of the reference's Tag.
  Conditions: a text of at most 4000 bytes.
-/
import Derived.Test.YtlcbcgillekphaaGreatDoorGe
namespace Go.Proofs.YtlcbcgillekphaaGreatDoor.sd
open Go.RowKit Mem rw ent
set_option linter.unusedVariables false
set_option linter.unusedSimpArgs false

def TgOut (P : Nat) (s : ByteArray) (r : dm.Res (List UInt8 × List UInt8) × dm.M) (w : World) (e : Ending) (w' : World) : Prop :=
  (∃ a' p' f', r = (.none, ⟨a', p', f'⟩) ∧ e = .returned (.tuple #[.agg #[.string ⟨#[]⟩, .string ⟨#[]⟩], .bool false, .agg #[.bool false, .int .i64 0, .int .i64 0, .bool false]]) ∧ Hid (At w P s a' p' f' w')) ∨
  (∃ o1 o2 a' p' f', r = (.some (o1, o2), ⟨a', p', f'⟩) ∧ e = .returned (.tuple #[.agg #[.string (strB o1), .string (strB o2)], .bool true, .agg #[.bool false, .int .i64 0, .int .i64 0, .bool false]]) ∧ Hid (At w P s a' p' f' w')) ∨
  (∃ l k, e = .returned (.tuple #[.agg #[.string ⟨#[]⟩, .string ⟨#[]⟩], .bool false, .agg #[.bool true, .int .i64 (l : Nat), .int .i64 (k : Nat), .bool false]]) ∧ Hid (FltAt P s r w w' l k))
set_option maxRecDepth 100000 in
set_option maxHeartbeats 8000000 in
theorem tag37n (P : Nat) (s : ByteArray) (hs : s.size ≤ 4000) (a f : Nat) (w : World) (h : SD w P s a 2 f) (ha : a ≤ s.size) (hf : f ≤ a) :
    Calls Tryz.prog 37 #[.pointer (some ⟨P, 0, none⟩)] w (TgOut P s (dm.tagM s.data.toList ⟨a, 2, f⟩) w) := by
  obtain ⟨W, hW⟩ : ∃ W, (w.alloc (.cells #[.string ⟨#[]⟩, .string ⟨#[]⟩] 71)).alloc (.cells #[.bool false, .int .i64 0, .int .i64 0, .bool false] 39) = W := ⟨_, rfl⟩
  have H0 : Hid (FS w P s (w.heap.size + 1) [.bool false, .int .i64 0, .int .i64 0, .bool false] w.heap.size [.string ⟨#[]⟩, .string ⟨#[]⟩] 71 a 2 f W) := Lib.hid (hW ▸ FS.start2 h _ _ (by simp))
  have hPl := Rw.lt h
  obtain ⟨X, hXn⟩ : ∃ X, w.heap.size = X := ⟨_, rfl⟩
  rw [hXn] at H0
  obtain ⟨R, hRn⟩ : ∃ R, X + 1 = R := ⟨_, rfl⟩
  rw [hRn] at H0
  obtain ⟨⟨cp0_1, cp1_1, cp2_1, cp3_1⟩, ⟨zp1_1, zp2_1, zp3_1⟩, hq_1, ⟨zr0_1, zr1_1, zr2_1, zr3_1⟩, hx_1, hz_1⟩ := H0.out.cells
  obtain ⟨yr0_1, yr1_1, yr2_1, yr3_1⟩ := four_at hq_1
  have xx0_1 := hx_1 0 _ rfl
  have xz0_1 := hz_1 0 (by simp)
  have xx1_1 := hx_1 1 _ rfl
  have xz1_1 := hz_1 1 (by simp)
  clear hq_1 hx_1 hz_1
  have HSK := Lib.hid (H0.out.skip (t := 1) (by decide) (by decide) (by decide) (by decide))
  clear h
  go_enter Tryz.func37, Tryz.ntmps37
  go_wp2_with fail
  refine HSK.out.mono ?_
  rintro e w1 ⟨rfl, HF1⟩
  clear hW
  clear cp0_1 cp1_1 cp2_1 cp3_1 zp1_1 zp2_1 zp3_1 zr0_1 zr1_1 zr2_1 zr3_1 yr0_1 yr1_1 yr2_1 yr3_1 xx0_1 xz0_1 xx1_1 xz1_1
  obtain ⟨⟨cp0_2, cp1_2, cp2_2, cp3_2⟩, ⟨zp1_2, zp2_2, zp3_2⟩, hq_2, ⟨zr0_2, zr1_2, zr2_2, zr3_2⟩, hx_2, hz_2⟩ := HF1.out.cells
  obtain ⟨yr0_2, yr1_2, yr2_2, yr3_2⟩ := four_at hq_2
  have xx0_2 := hx_2 0 _ rfl
  have xz0_2 := hz_2 0 (by simp)
  have xx1_2 := hx_2 1 _ rfl
  have xz1_2 := hz_2 1 (by simp)
  clear hq_2 hx_2 hz_2
  obtain ⟨W3, hW3, hF3⟩ := HF1.out.four rfl (.bool false) (.int .i64 0) (.int .i64 0) (.bool false)
  have HF3 := Lib.hid hF3
  clear hF3
  obtain ⟨⟨cp0_4, cp1_4, cp2_4, cp3_4⟩, ⟨zp1_4, zp2_4, zp3_4⟩, hq_4, ⟨zr0_4, zr1_4, zr2_4, zr3_4⟩, hx_4, hz_4⟩ := HF3.out.cells
  obtain ⟨yr0_4, yr1_4, yr2_4, yr3_4⟩ := four_at hq_4
  have xx0_4 := hx_4 0 _ rfl
  have xz0_4 := hz_4 0 (by simp)
  have xx1_4 := hx_4 1 _ rfl
  have xz1_4 := hz_4 1 (by simp)
  clear hq_4 hx_4 hz_4
  obtain ⟨W5, hW5, hF5⟩ := HF3.out.putx (by simp) 0 (.string ⟨#[]⟩)
  have HF5 := Lib.hid hF5
  clear hF5
  obtain ⟨⟨cp0_6, cp1_6, cp2_6, cp3_6⟩, ⟨zp1_6, zp2_6, zp3_6⟩, hq_6, ⟨zr0_6, zr1_6, zr2_6, zr3_6⟩, hx_6, hz_6⟩ := HF5.out.cells
  obtain ⟨yr0_6, yr1_6, yr2_6, yr3_6⟩ := four_at hq_6
  have xx0_6 := hx_6 0 _ rfl
  have xz0_6 := hz_6 0 (by simp)
  have xx1_6 := hx_6 1 _ rfl
  have xz1_6 := hz_6 1 (by simp)
  clear hq_6 hx_6 hz_6
  obtain ⟨W7, hW7, hF7⟩ := HF5.out.putx (by simp) 1 (.string ⟨#[]⟩)
  have HF7 := Lib.hid hF7
  clear hF7
  obtain ⟨⟨cp0_8, cp1_8, cp2_8, cp3_8⟩, ⟨zp1_8, zp2_8, zp3_8⟩, hq_8, ⟨zr0_8, zr1_8, zr2_8, zr3_8⟩, hx_8, hz_8⟩ := HF7.out.cells
  obtain ⟨yr0_8, yr1_8, yr2_8, yr3_8⟩ := four_at hq_8
  have xx0_8 := hx_8 0 _ rfl
  have xz0_8 := hz_8 0 (by simp)
  have xx1_8 := hx_8 1 _ rfl
  have xz1_8 := hz_8 1 (by simp)
  clear hq_8 hx_8 hz_8
  obtain ⟨W9, hW9, hF9⟩ := HF7.out.four rfl (.bool false) (.int .i64 0) (.int .i64 0) (.bool false)
  have HF9 := Lib.hid hF9
  clear hF9
  obtain ⟨⟨cp0_10, cp1_10, cp2_10, cp3_10⟩, ⟨zp1_10, zp2_10, zp3_10⟩, hq_10, ⟨zr0_10, zr1_10, zr2_10, zr3_10⟩, hx_10, hz_10⟩ := HF9.out.cells
  obtain ⟨yr0_10, yr1_10, yr2_10, yr3_10⟩ := four_at hq_10
  have xx0_10 := hx_10 0 _ rfl
  have xz0_10 := hz_10 0 (by simp)
  have xx1_10 := hx_10 1 _ rfl
  have xz1_10 := hz_10 1 (by simp)
  clear hq_10 hx_10 hz_10
  go_wp2_with fail
  go_region
  go_wp2_with fail
  refine bodyPost_ret (v := .tuple #[.agg #[.string ⟨#[]⟩, .string ⟨#[]⟩], .bool false, .agg #[.bool false, .int .i64 0, .int .i64 0, .bool false]]) (by simp [results, Tryz.results37, go_sem, yr0_10, yr1_10, yr2_10, yr3_10, xx0_10, xx1_10]) rfl ?_
  exact .inl ⟨_, _, _, by simp [dm.tagM], rfl, Lib.hid (HF9.out.at_.quiet (But.drew (But.refl [] _)))⟩
theorem sp_nx {T : List UInt8} {a : Nat} (h : nx T a 0 = true) : T[a]? = some 32 := by
  unfold nx at h
  cases h1 : T[a]? with
  | none => rw [h1] at h; cases h
  | some c => rw [h1] at h; simp [dm.inS] at h; rw [show c = 32 from UInt8.toNat_inj.1 h]
theorem sp_no {T : List UInt8} {a : Nat} (h : nx T a 0 = false) : ¬ T[a]? = some 32 := fun e => by
  unfold nx at h
  rw [e] at h
  simp [dm.inS] at h
section
variable {T : List UInt8} {a f q aq a2 q2 a3 a4 i : Nat} {o o2 : List UInt8}
theorem t_b1 (h : ¬ T[a]? = some 32) (h1 : dm.tok 1 (T.drop a) = (o, q)) (h2 : a + q = aq) (h3 : utf.V o = false) : dm.tagM T ⟨a, 1, f⟩ = dm.flt T ⟨aq, 1, f⟩ a := by
  subst h2; simp [dm.tagM, h, h1, h3]
theorem t_b2 (h : ¬ T[a]? = some 32) (h1 : dm.tok 1 (T.drop a) = (o, q)) (h2 : a + q = aq) (h3 : utf.V o = true) (h4 : o = [] ∨ ¬ T[aq]? = some 61) : dm.tagM T ⟨a, 1, f⟩ = dm.flt T ⟨aq, 1, f⟩ a := by
  subst h2; simp [dm.tagM, h, h1, h3, h4]
theorem t_b3 (h : ¬ T[a]? = some 32) (h1 : dm.tok 1 (T.drop a) = (o, q)) (h2 : a + q = aq) (h3 : utf.V o = true) (h4 : ¬ o = []) (h5 : T[aq]? = some 61) (h6 : aq + 1 = a2) (h7 : dm.tok 2 (T.drop a2) = (o2, q2)) (h8 : a2 + q2 = a3) (h9 : utf.V o2 = false ∨ o2 = []) : dm.tagM T ⟨a, 1, f⟩ = dm.flt T ⟨a3, 1, f⟩ a2 := by
  subst h2; subst h6; subst h8
  cases h10 : utf.V o2 with
  | false => simp [dm.tagM, h, h1, h3, h4, h5, h7, h10]
  | true => rcases h9 with h9 | h9
            · rw [h10] at h9; cases h9
            · simp [dm.tagM, h, h1, h3, h4, h5, h7, h10, h9]
theorem t_b4 (h : ¬ T[a]? = some 32) (h1 : dm.tok 1 (T.drop a) = (o, q)) (h2 : a + q = aq) (h3 : utf.V o = true) (h4 : ¬ o = []) (h5 : T[aq]? = some 61) (h6 : aq + 1 = a2) (h7 : dm.tok 2 (T.drop a2) = (o2, q2)) (h8 : a2 + q2 = a3) (h9 : utf.V o2 = true) (h10 : ¬ o2 = []) (h11 : T.length ≤ a3) : dm.tagM T ⟨a, 1, f⟩ = (.some (o, o2), ⟨a3, 2, f⟩) := by
  subst h2; subst h6; subst h8
  simp [dm.tagM, h, h1, h3, h4, h5, h7, h9, h10, h11]
theorem t_b5 (h : ¬ T[a]? = some 32) (h1 : dm.tok 1 (T.drop a) = (o, q)) (h2 : a + q = aq) (h3 : utf.V o = true) (h4 : ¬ o = []) (h5 : T[aq]? = some 61) (h6 : aq + 1 = a2) (h7 : dm.tok 2 (T.drop a2) = (o2, q2)) (h8 : a2 + q2 = a3) (h9 : utf.V o2 = true) (h10 : ¬ o2 = []) (h11 : ¬ T.length ≤ a3) (h12 : dm.behindM T ⟨a3, 1, f⟩ = (none, ⟨a4, 1, f⟩)) : dm.tagM T ⟨a, 1, f⟩ = (.some (o, o2), ⟨a4, 1, f⟩) := by
  subst h2; subst h6; subst h8
  simp [dm.tagM, h, h1, h3, h4, h5, h7, h9, h10, h11, h12]
theorem t_b6 (h : ¬ T[a]? = some 32) (h1 : dm.tok 1 (T.drop a) = (o, q)) (h2 : a + q = aq) (h3 : utf.V o = true) (h4 : ¬ o = []) (h5 : T[aq]? = some 61) (h6 : aq + 1 = a2) (h7 : dm.tok 2 (T.drop a2) = (o2, q2)) (h8 : a2 + q2 = a3) (h9 : utf.V o2 = true) (h10 : ¬ o2 = []) (h11 : ¬ T.length ≤ a3) (h12 : dm.behindM T ⟨a3, 1, f⟩ = (some i, ⟨a4, 1, f⟩)) : dm.tagM T ⟨a, 1, f⟩ = dm.flt T ⟨a4, 1, f⟩ i := by
  subst h2; subst h6; subst h8
  simp [dm.tagM, h, h1, h3, h4, h5, h7, h9, h10, h11, h12]
theorem t_n (h : T[a]? = some 32) (h1 : q = dm.runN (dm.inS 0) (T.drop a)) (h2 : a + q = aq) : dm.tagM T ⟨a, 1, f⟩ = (.none, ⟨aq, 2, f⟩) := by
  subst h2; subst h1; simp [dm.tagM, h]
end
set_option maxRecDepth 100000 in
set_option maxHeartbeats 8000000 in
theorem tag37 (P : Nat) (s : ByteArray) (hs : s.size ≤ 4000) (a f : Nat) (w : World) (h : SD w P s a 1 f) (ha : a ≤ s.size) (hf : f ≤ a) :
    Calls Tryz.prog 37 #[.pointer (some ⟨P, 0, none⟩)] w (TgOut P s (dm.tagM s.data.toList ⟨a, 1, f⟩) w) := by
  obtain ⟨W, hW⟩ : ∃ W, (w.alloc (.cells #[.string ⟨#[]⟩, .string ⟨#[]⟩] 71)).alloc (.cells #[.bool false, .int .i64 0, .int .i64 0, .bool false] 39) = W := ⟨_, rfl⟩
  have H0 : Hid (FS w P s (w.heap.size + 1) [.bool false, .int .i64 0, .int .i64 0, .bool false] w.heap.size [.string ⟨#[]⟩, .string ⟨#[]⟩] 71 a 1 f W) := Lib.hid (hW ▸ FS.start2 h _ _ (by simp))
  have hPl := Rw.lt h
  obtain ⟨X, hXn⟩ : ∃ X, w.heap.size = X := ⟨_, rfl⟩
  rw [hXn] at H0
  obtain ⟨R, hRn⟩ : ∃ R, X + 1 = R := ⟨_, rfl⟩
  rw [hRn] at H0
  obtain ⟨⟨cp0_1, cp1_1, cp2_1, cp3_1⟩, ⟨zp1_1, zp2_1, zp3_1⟩, hq_1, ⟨zr0_1, zr1_1, zr2_1, zr3_1⟩, hx_1, hz_1⟩ := H0.out.cells
  obtain ⟨yr0_1, yr1_1, yr2_1, yr3_1⟩ := four_at hq_1
  have xx0_1 := hx_1 0 _ rfl
  have xz0_1 := hz_1 0 (by simp)
  have xx1_1 := hx_1 1 _ rfl
  have xz1_1 := hz_1 1 (by simp)
  clear hq_1 hx_1 hz_1
  have HSK := Lib.hid (H0.out.skip (t := 1) (by decide) (by decide) (by decide) (by decide))
  clear h
  obtain ⟨b32, hb32⟩ : ∃ b32, nx s.data.toList a 0 = b32 := ⟨_, rfl⟩
  have HB32 := Lib.hid hb32
  clear hb32
  go_enter Tryz.func37, Tryz.ntmps37
  go_wp2_with fail
  refine HSK.out.mono ?_
  rintro e w1 ⟨rfl, HF1⟩
  clear hW
  clear cp0_1 cp1_1 cp2_1 cp3_1 zp1_1 zp2_1 zp3_1 zr0_1 zr1_1 zr2_1 zr3_1 yr0_1 yr1_1 yr2_1 yr3_1 xx0_1 xz0_1 xx1_1 xz1_1
  obtain ⟨⟨cp0_2, cp1_2, cp2_2, cp3_2⟩, ⟨zp1_2, zp2_2, zp3_2⟩, hq_2, ⟨zr0_2, zr1_2, zr2_2, zr3_2⟩, hx_2, hz_2⟩ := HF1.out.cells
  obtain ⟨yr0_2, yr1_2, yr2_2, yr3_2⟩ := four_at hq_2
  have xx0_2 := hx_2 0 _ rfl
  have xz0_2 := hz_2 0 (by simp)
  have xx1_2 := hx_2 1 _ rfl
  have xz1_2 := hz_2 1 (by simp)
  clear hq_2 hx_2 hz_2
  obtain ⟨W3, hW3, hF3⟩ := HF1.out.four rfl (.bool false) (.int .i64 0) (.int .i64 0) (.bool false)
  have HF3 := Lib.hid hF3
  clear hF3
  obtain ⟨⟨cp0_4, cp1_4, cp2_4, cp3_4⟩, ⟨zp1_4, zp2_4, zp3_4⟩, hq_4, ⟨zr0_4, zr1_4, zr2_4, zr3_4⟩, hx_4, hz_4⟩ := HF3.out.cells
  obtain ⟨yr0_4, yr1_4, yr2_4, yr3_4⟩ := four_at hq_4
  have xx0_4 := hx_4 0 _ rfl
  have xz0_4 := hz_4 0 (by simp)
  have xx1_4 := hx_4 1 _ rfl
  have xz1_4 := hz_4 1 (by simp)
  clear hq_4 hx_4 hz_4
  have HNX := Lib.hid (HF3.out.next (k := 0) (by decide) HB32.out)
  go_wp2_with fail
  refine HNX.out.mono ?_
  rintro e w2 ⟨rfl, HF2n⟩
  clear HSK HNX
  clear cp0_2 cp1_2 cp2_2 cp3_2 zp1_2 zp2_2 zp3_2 zr0_2 zr1_2 zr2_2 zr3_2 yr0_2 yr1_2 yr2_2 yr3_2 xx0_2 xz0_2 xx1_2 xz1_2 hW3 cp0_4 cp1_4 cp2_4 cp3_4 zp1_4 zp2_4 zp3_4 zr0_4 zr1_4 zr2_4 zr3_4 yr0_4 yr1_4 yr2_4 yr3_4 xx0_4 xz0_4 xx1_4 xz1_4
  obtain ⟨⟨cp0_5, cp1_5, cp2_5, cp3_5⟩, ⟨zp1_5, zp2_5, zp3_5⟩, hq_5, ⟨zr0_5, zr1_5, zr2_5, zr3_5⟩, hx_5, hz_5⟩ := HF2n.out.cells
  obtain ⟨yr0_5, yr1_5, yr2_5, yr3_5⟩ := four_at hq_5
  have xx0_5 := hx_5 0 _ rfl
  have xz0_5 := hz_5 0 (by simp)
  have xx1_5 := hx_5 1 _ rfl
  have xz1_5 := hz_5 1 (by simp)
  clear hq_5 hx_5 hz_5
  cases b32 with
  | true =>
    obtain ⟨n, aq, HN, HAQ, hq1, hq2⟩ := run_to (s := s) (a := a) 0 ha
    have HRU := Lib.hid (HF2n.out.run hs ha (k := 0) (by decide) HN.out HAQ.out)
    go_wp2_with fail
    refine HRU.out.mono ?_
    rintro e w3 ⟨rfl, HF3r⟩
    clear HRU
    clear cp0_5 cp1_5 cp2_5 cp3_5 zp1_5 zp2_5 zp3_5 zr0_5 zr1_5 zr2_5 zr3_5 yr0_5 yr1_5 yr2_5 yr3_5 xx0_5 xz0_5 xx1_5 xz1_5
    obtain ⟨⟨cp0_6, cp1_6, cp2_6, cp3_6⟩, ⟨zp1_6, zp2_6, zp3_6⟩, hq_6, ⟨zr0_6, zr1_6, zr2_6, zr3_6⟩, hx_6, hz_6⟩ := HF3r.out.cells
    obtain ⟨yr0_6, yr1_6, yr2_6, yr3_6⟩ := four_at hq_6
    have xx0_6 := hx_6 0 _ rfl
    have xz0_6 := hz_6 0 (by simp)
    have xx1_6 := hx_6 1 _ rfl
    have xz1_6 := hz_6 1 (by simp)
    clear hq_6 hx_6 hz_6
    obtain ⟨W7, hW7, hF7⟩ := HF3r.out.setp 2 (.int .i64 2) rfl
    have HF7 := Lib.hid hF7
    clear hF7
    obtain ⟨⟨cp0_8, cp1_8, cp2_8, cp3_8⟩, ⟨zp1_8, zp2_8, zp3_8⟩, hq_8, ⟨zr0_8, zr1_8, zr2_8, zr3_8⟩, hx_8, hz_8⟩ := HF7.out.cells
    obtain ⟨yr0_8, yr1_8, yr2_8, yr3_8⟩ := four_at hq_8
    have xx0_8 := hx_8 0 _ rfl
    have xz0_8 := hz_8 0 (by simp)
    have xx1_8 := hx_8 1 _ rfl
    have xz1_8 := hz_8 1 (by simp)
    clear hq_8 hx_8 hz_8
    have HST : Hid (s.data.toList[a]? = some 32) := Lib.hid (sp_nx HB32.out)
    obtain ⟨W9, hW9, hF9⟩ := HF7.out.putx (by simp) 0 (.string ⟨#[]⟩)
    have HF9 := Lib.hid hF9
    clear hF9
    obtain ⟨⟨cp0_10, cp1_10, cp2_10, cp3_10⟩, ⟨zp1_10, zp2_10, zp3_10⟩, hq_10, ⟨zr0_10, zr1_10, zr2_10, zr3_10⟩, hx_10, hz_10⟩ := HF9.out.cells
    obtain ⟨yr0_10, yr1_10, yr2_10, yr3_10⟩ := four_at hq_10
    have xx0_10 := hx_10 0 _ rfl
    have xz0_10 := hz_10 0 (by simp)
    have xx1_10 := hx_10 1 _ rfl
    have xz1_10 := hz_10 1 (by simp)
    clear hq_10 hx_10 hz_10
    obtain ⟨W11, hW11, hF11⟩ := HF9.out.putx (by simp) 1 (.string ⟨#[]⟩)
    have HF11 := Lib.hid hF11
    clear hF11
    obtain ⟨⟨cp0_12, cp1_12, cp2_12, cp3_12⟩, ⟨zp1_12, zp2_12, zp3_12⟩, hq_12, ⟨zr0_12, zr1_12, zr2_12, zr3_12⟩, hx_12, hz_12⟩ := HF11.out.cells
    obtain ⟨yr0_12, yr1_12, yr2_12, yr3_12⟩ := four_at hq_12
    have xx0_12 := hx_12 0 _ rfl
    have xz0_12 := hz_12 0 (by simp)
    have xx1_12 := hx_12 1 _ rfl
    have xz1_12 := hz_12 1 (by simp)
    clear hq_12 hx_12 hz_12
    obtain ⟨W13, hW13, hF13⟩ := HF11.out.four rfl (.bool false) (.int .i64 0) (.int .i64 0) (.bool false)
    have HF13 := Lib.hid hF13
    clear hF13
    obtain ⟨⟨cp0_14, cp1_14, cp2_14, cp3_14⟩, ⟨zp1_14, zp2_14, zp3_14⟩, hq_14, ⟨zr0_14, zr1_14, zr2_14, zr3_14⟩, hx_14, hz_14⟩ := HF13.out.cells
    obtain ⟨yr0_14, yr1_14, yr2_14, yr3_14⟩ := four_at hq_14
    have xx0_14 := hx_14 0 _ rfl
    have xz0_14 := hz_14 0 (by simp)
    have xx1_14 := hx_14 1 _ rfl
    have xz1_14 := hz_14 1 (by simp)
    clear hq_14 hx_14 hz_14
    go_wp2_with fail
    go_region
    go_wp2_with fail
    refine bodyPost_ret (v := .tuple #[.agg #[.string ⟨#[]⟩, .string ⟨#[]⟩], .bool false, .agg #[.bool false, .int .i64 0, .int .i64 0, .bool false]]) (by simp [results, Tryz.results37, go_sem, yr0_14, yr1_14, yr2_14, yr3_14, xx0_14, xx1_14]) rfl ?_
    exact .inl ⟨_, _, _, t_n HST.out HN.out HAQ.out, rfl, Lib.hid (HF13.out.at_.quiet (But.drew (But.refl [] _)))⟩
  | false =>
    have HSN : Hid (¬ s.data.toList[a]? = some 32) := Lib.hid (sp_no HB32.out)
    obtain ⟨o, q, aq, HTOK, HAQ, hq1, hq2⟩ := tok_to (s := s) (a := a) 1 ha
    obtain ⟨l, k, HLK⟩ := place_to s.data.toList f a
    have HTK := Lib.hid (HF2n.out.token hs ha hf (k := 1) (by decide) HTOK.out HAQ.out HLK.out)
    go_wp2_with fail
    refine HTK.out.mono ?_
    rintro e wt hT
    clear HTK
    clear cp0_5 cp1_5 cp2_5 cp3_5 zp1_5 zp2_5 zp3_5 zr0_5 zr1_5 zr2_5 zr3_5 yr0_5 yr1_5 yr2_5 yr3_5 xx0_5 xz0_5 xx1_5 xz1_5
    rcases hT with ⟨hv, rfl, HFA⟩ | ⟨hv, rfl, HFA⟩
    rotate_left
    · have HV := Lib.hid hv
      clear hv
      obtain ⟨⟨cp0_15, cp1_15, cp2_15, cp3_15⟩, ⟨zp1_15, zp2_15, zp3_15⟩, hq_15, ⟨zr0_15, zr1_15, zr2_15, zr3_15⟩, hx_15, hz_15⟩ := HFA.out.cells
      obtain ⟨yr0_15, yr1_15, yr2_15, yr3_15⟩ := four_at hq_15
      have xx0_15 := hx_15 0 _ rfl
      have xz0_15 := hz_15 0 (by simp)
      have xx1_15 := hx_15 1 _ rfl
      have xz1_15 := hz_15 1 (by simp)
      clear hq_15 hx_15 hz_15
      obtain ⟨W16, hW16, hF16⟩ := HFA.out.four rfl (.bool true) (.int .i64 l) (.int .i64 k) (.bool false)
      have HF16 := Lib.hid hF16
      clear hF16
      obtain ⟨⟨cp0_17, cp1_17, cp2_17, cp3_17⟩, ⟨zp1_17, zp2_17, zp3_17⟩, hq_17, ⟨zr0_17, zr1_17, zr2_17, zr3_17⟩, hx_17, hz_17⟩ := HF16.out.cells
      obtain ⟨yr0_17, yr1_17, yr2_17, yr3_17⟩ := four_at hq_17
      have xx0_17 := hx_17 0 _ rfl
      have xz0_17 := hz_17 0 (by simp)
      have xx1_17 := hx_17 1 _ rfl
      have xz1_17 := hz_17 1 (by simp)
      clear hq_17 hx_17 hz_17
      obtain ⟨W18, hW18, hF18⟩ := HF16.out.putx (by simp) 0 (.string ⟨#[]⟩)
      have HF18 := Lib.hid hF18
      clear hF18
      obtain ⟨⟨cp0_19, cp1_19, cp2_19, cp3_19⟩, ⟨zp1_19, zp2_19, zp3_19⟩, hq_19, ⟨zr0_19, zr1_19, zr2_19, zr3_19⟩, hx_19, hz_19⟩ := HF18.out.cells
      obtain ⟨yr0_19, yr1_19, yr2_19, yr3_19⟩ := four_at hq_19
      have xx0_19 := hx_19 0 _ rfl
      have xz0_19 := hz_19 0 (by simp)
      have xx1_19 := hx_19 1 _ rfl
      have xz1_19 := hz_19 1 (by simp)
      clear hq_19 hx_19 hz_19
      obtain ⟨W20, hW20, hF20⟩ := HF18.out.putx (by simp) 1 (.string ⟨#[]⟩)
      have HF20 := Lib.hid hF20
      clear hF20
      obtain ⟨⟨cp0_21, cp1_21, cp2_21, cp3_21⟩, ⟨zp1_21, zp2_21, zp3_21⟩, hq_21, ⟨zr0_21, zr1_21, zr2_21, zr3_21⟩, hx_21, hz_21⟩ := HF20.out.cells
      obtain ⟨yr0_21, yr1_21, yr2_21, yr3_21⟩ := four_at hq_21
      have xx0_21 := hx_21 0 _ rfl
      have xz0_21 := hz_21 0 (by simp)
      have xx1_21 := hx_21 1 _ rfl
      have xz1_21 := hz_21 1 (by simp)
      clear hq_21 hx_21 hz_21
      obtain ⟨W22, hW22, hF22⟩ := HF20.out.four rfl (.bool true) (.int .i64 l) (.int .i64 k) (.bool false)
      have HF22 := Lib.hid hF22
      clear hF22
      obtain ⟨⟨cp0_23, cp1_23, cp2_23, cp3_23⟩, ⟨zp1_23, zp2_23, zp3_23⟩, hq_23, ⟨zr0_23, zr1_23, zr2_23, zr3_23⟩, hx_23, hz_23⟩ := HF22.out.cells
      obtain ⟨yr0_23, yr1_23, yr2_23, yr3_23⟩ := four_at hq_23
      have xx0_23 := hx_23 0 _ rfl
      have xz0_23 := hz_23 0 (by simp)
      have xx1_23 := hx_23 1 _ rfl
      have xz1_23 := hz_23 1 (by simp)
      clear hq_23 hx_23 hz_23
      go_wp2_with fail
      go_region
      go_wp2_with fail
      refine bodyPost_ret (v := .tuple #[.agg #[.string ⟨#[]⟩, .string ⟨#[]⟩], .bool false, .agg #[.bool true, .int .i64 l, .int .i64 k, .bool false]]) (by simp [results, Tryz.results37, go_sem, yr0_23, yr1_23, yr2_23, yr3_23, xx0_23, xx1_23]) rfl ?_
      exact .inr (.inr ⟨l, k, rfl, Lib.hid (FltAt.of (p := 1) (HF22.out.at_.quiet (But.drew (But.refl [] _))) HLK.out (t_b1 HSN.out HTOK.out HAQ.out HV.out))⟩)
    have HV := Lib.hid hv
    clear hv
    obtain ⟨⟨cp0_24, cp1_24, cp2_24, cp3_24⟩, ⟨zp1_24, zp2_24, zp3_24⟩, hq_24, ⟨zr0_24, zr1_24, zr2_24, zr3_24⟩, hx_24, hz_24⟩ := HFA.out.cells
    obtain ⟨yr0_24, yr1_24, yr2_24, yr3_24⟩ := four_at hq_24
    have xx0_24 := hx_24 0 _ rfl
    have xz0_24 := hz_24 0 (by simp)
    have xx1_24 := hx_24 1 _ rfl
    have xz1_24 := hz_24 1 (by simp)
    clear hq_24 hx_24 hz_24
    obtain ⟨W25, hW25, hF25⟩ := HFA.out.four rfl (.bool false) (.int .i64 0) (.int .i64 0) (.bool false)
    have HF25 := Lib.hid hF25
    clear hF25
    obtain ⟨⟨cp0_26, cp1_26, cp2_26, cp3_26⟩, ⟨zp1_26, zp2_26, zp3_26⟩, hq_26, ⟨zr0_26, zr1_26, zr2_26, zr3_26⟩, hx_26, hz_26⟩ := HF25.out.cells
    obtain ⟨yr0_26, yr1_26, yr2_26, yr3_26⟩ := four_at hq_26
    have xx0_26 := hx_26 0 _ rfl
    have xz0_26 := hz_26 0 (by simp)
    have xx1_26 := hx_26 1 _ rfl
    have xz1_26 := hz_26 1 (by simp)
    clear hq_26 hx_26 hz_26
    have HFT := Lib.hid (fun (w2 : World) (hb2 : But [] _ w2) => (HF25.out.quiet hb2).fault hs (i := a) (l := l) (k := k) hf ha HLK.out)
    by_cases hon : o = []
    · have HON := Lib.hid hon
      have hse : (⟨o.toArray⟩ : ByteArray) = ⟨#[]⟩ := by rw [hon]
      rw [hse]
      clear hon
      go_wp2_with fail
      go_quiet (fail)
      have HF27 := Lib.hid (HF25.out.drew nq)
      revert HF27
      generalize World.drewN _ nq = wq27
      intro HF27
      clear cp0_24 cp1_24 cp2_24 cp3_24 zp1_24 zp2_24 zp3_24 zr0_24 zr1_24 zr2_24 zr3_24 yr0_24 yr1_24 yr2_24 yr3_24 xx0_24 xz0_24 xx1_24 xz1_24 hW25 cp0_26 cp1_26 cp2_26 cp3_26 zp1_26 zp2_26 zp3_26 zr0_26 zr1_26 zr2_26 zr3_26 yr0_26 yr1_26 yr2_26 yr3_26 xx0_26 xz0_26 xx1_26 xz1_26
      obtain ⟨⟨cp0_28, cp1_28, cp2_28, cp3_28⟩, ⟨zp1_28, zp2_28, zp3_28⟩, hq_28, ⟨zr0_28, zr1_28, zr2_28, zr3_28⟩, hx_28, hz_28⟩ := HF27.out.cells
      obtain ⟨yr0_28, yr1_28, yr2_28, yr3_28⟩ := four_at hq_28
      have xx0_28 := hx_28 0 _ rfl
      have xz0_28 := hz_28 0 (by simp)
      have xx1_28 := hx_28 1 _ rfl
      have xz1_28 := hz_28 1 (by simp)
      clear hq_28 hx_28 hz_28
      have HFU := Lib.hid (fun (w2 : World) (hb2 : But [] _ w2) => (HF27.out.quiet hb2).fault hs (i := a) (l := l) (k := k) hf ha HLK.out)
      clear HFT
      go_wp2_with fail
      go_region_held3 (fun wx => wx.cell? ⟨X, 0, none⟩ = some (.string ⟨#[]⟩) ∧ wx.cell? ⟨X, 1, none⟩ = some (.string ⟨#[]⟩)) (first | exact ⟨xx0_46, xx1_46⟩ | exact ⟨xx0_44, xx1_44⟩ | exact ⟨xx0_40, xx1_40⟩ | exact ⟨xx0_28, xx1_28⟩ | go_keep) (first | (go_at_call 73; (refine (HFU.out _ ((But.refl [] _).drew)).mono ?_); rintro e wf ⟨rfl, HFc29⟩; obtain ⟨⟨cp0_40, cp1_40, cp2_40, cp3_40⟩, ⟨zp1_40, zp2_40, zp3_40⟩, hq_40, ⟨zr0_40, zr1_40, zr2_40, zr3_40⟩, hx_40, hz_40⟩ := HFc29.out.cells; obtain ⟨yr0_40, yr1_40, yr2_40, yr3_40⟩ := four_at hq_40; have xx0_40 := hx_40 0 _ rfl; have xz0_40 := hz_40 0 (by simp); have xx1_40 := hx_40 1 _ rfl; have xz1_40 := hz_40 1 (by simp); clear hq_40 hx_40 hz_40; obtain ⟨W41, hW41, hF41⟩ := HFc29.out.putx (by simp) 0 (.string ⟨#[]⟩); have HF41 := Lib.hid hF41; clear hF41; obtain ⟨⟨cp0_42, cp1_42, cp2_42, cp3_42⟩, ⟨zp1_42, zp2_42, zp3_42⟩, hq_42, ⟨zr0_42, zr1_42, zr2_42, zr3_42⟩, hx_42, hz_42⟩ := HF41.out.cells; obtain ⟨yr0_42, yr1_42, yr2_42, yr3_42⟩ := four_at hq_42; have xx0_42 := hx_42 0 _ rfl; have xz0_42 := hz_42 0 (by simp); have xx1_42 := hx_42 1 _ rfl; have xz1_42 := hz_42 1 (by simp); clear hq_42 hx_42 hz_42; obtain ⟨W43, hW43, hF43⟩ := HF41.out.putx (by simp) 1 (.string ⟨#[]⟩); have HF43 := Lib.hid hF43; clear hF43; obtain ⟨⟨cp0_44, cp1_44, cp2_44, cp3_44⟩, ⟨zp1_44, zp2_44, zp3_44⟩, hq_44, ⟨zr0_44, zr1_44, zr2_44, zr3_44⟩, hx_44, hz_44⟩ := HF43.out.cells; obtain ⟨yr0_44, yr1_44, yr2_44, yr3_44⟩ := four_at hq_44; have xx0_44 := hx_44 0 _ rfl; have xz0_44 := hz_44 0 (by simp); have xx1_44 := hx_44 1 _ rfl; have xz1_44 := hz_44 1 (by simp); clear hq_44 hx_44 hz_44; obtain ⟨W45, hW45, hF45⟩ := HF43.out.four rfl (.bool true) (.int .i64 l) (.int .i64 k) (.bool false); have HF45 := Lib.hid hF45; clear hF45; obtain ⟨⟨cp0_46, cp1_46, cp2_46, cp3_46⟩, ⟨zp1_46, zp2_46, zp3_46⟩, hq_46, ⟨zr0_46, zr1_46, zr2_46, zr3_46⟩, hx_46, hz_46⟩ := HF45.out.cells; obtain ⟨yr0_46, yr1_46, yr2_46, yr3_46⟩ := four_at hq_46; have xx0_46 := hx_46 0 _ rfl; have xz0_46 := hz_46 0 (by simp); have xx1_46 := hx_46 1 _ rfl; have xz1_46 := hz_46 1 (by simp); clear hq_46 hx_46 hz_46))
      go_wp2_with fail
      refine bodyPost_ret (v := .tuple #[.agg #[.string ⟨#[]⟩, .string ⟨#[]⟩], .bool false, .agg #[.bool true, .int .i64 l, .int .i64 k, .bool false]]) (by simp [results, Tryz.results37, go_sem, yr0_46, yr1_46, yr2_46, yr3_46, xx0_46, xx1_46]) rfl ?_
      exact .inr (.inr ⟨l, k, rfl, Lib.hid (FltAt.of (p := 1) HF45.out.at_ HLK.out (t_b2 HSN.out HTOK.out HAQ.out HV.out (.inl HON.out)))⟩)
    have hse := str_ne hon
    have HON := Lib.hid hon
    have hsb : o.isEmpty = false := by simpa using hon
    clear hon
    by_cases hlt : aq < s.size
    rotate_left
    · have HD := Lib.hid (HF25.out.doneQ (b := true) (by simpa using hlt))
      have HNO : Hid (s.data.toList[aq]? = none) := Lib.hid (List.getElem?_eq_none (by simpa using hlt))
      go_wp2_with fail
      go_quiet ((go_at_call 35; (with_reducible refine (HD.out _).mono ?_); rintro e w2 ⟨rfl, q, rfl⟩; exact ⟨rfl, _, rfl⟩))
      have HF47 := Lib.hid (HF25.out.drew nq)
      revert HF47
      generalize World.drewN _ nq = wq47
      intro HF47
      clear cp0_24 cp1_24 cp2_24 cp3_24 zp1_24 zp2_24 zp3_24 zr0_24 zr1_24 zr2_24 zr3_24 yr0_24 yr1_24 yr2_24 yr3_24 xx0_24 xz0_24 xx1_24 xz1_24 hW25 cp0_26 cp1_26 cp2_26 cp3_26 zp1_26 zp2_26 zp3_26 zr0_26 zr1_26 zr2_26 zr3_26 yr0_26 yr1_26 yr2_26 yr3_26 xx0_26 xz0_26 xx1_26 xz1_26
      obtain ⟨⟨cp0_48, cp1_48, cp2_48, cp3_48⟩, ⟨zp1_48, zp2_48, zp3_48⟩, hq_48, ⟨zr0_48, zr1_48, zr2_48, zr3_48⟩, hx_48, hz_48⟩ := HF47.out.cells
      obtain ⟨yr0_48, yr1_48, yr2_48, yr3_48⟩ := four_at hq_48
      have xx0_48 := hx_48 0 _ rfl
      have xz0_48 := hz_48 0 (by simp)
      have xx1_48 := hx_48 1 _ rfl
      have xz1_48 := hz_48 1 (by simp)
      clear hq_48 hx_48 hz_48
      have HFU := Lib.hid (fun (w2 : World) (hb2 : But [] _ w2) => (HF47.out.quiet hb2).fault hs (i := a) (l := l) (k := k) hf ha HLK.out)
      clear HFT
      go_wp2_with fail
      go_region_held3 (fun wx => wx.cell? ⟨X, 0, none⟩ = some (.string ⟨#[]⟩) ∧ wx.cell? ⟨X, 1, none⟩ = some (.string ⟨#[]⟩)) (first | exact ⟨xx0_66, xx1_66⟩ | exact ⟨xx0_64, xx1_64⟩ | exact ⟨xx0_60, xx1_60⟩ | exact ⟨xx0_48, xx1_48⟩ | go_keep) (first | (go_at_call 73; (refine (HFU.out _ ((But.refl [] _).drew)).mono ?_); rintro e wf ⟨rfl, HFc49⟩; obtain ⟨⟨cp0_60, cp1_60, cp2_60, cp3_60⟩, ⟨zp1_60, zp2_60, zp3_60⟩, hq_60, ⟨zr0_60, zr1_60, zr2_60, zr3_60⟩, hx_60, hz_60⟩ := HFc49.out.cells; obtain ⟨yr0_60, yr1_60, yr2_60, yr3_60⟩ := four_at hq_60; have xx0_60 := hx_60 0 _ rfl; have xz0_60 := hz_60 0 (by simp); have xx1_60 := hx_60 1 _ rfl; have xz1_60 := hz_60 1 (by simp); clear hq_60 hx_60 hz_60; obtain ⟨W61, hW61, hF61⟩ := HFc49.out.putx (by simp) 0 (.string ⟨#[]⟩); have HF61 := Lib.hid hF61; clear hF61; obtain ⟨⟨cp0_62, cp1_62, cp2_62, cp3_62⟩, ⟨zp1_62, zp2_62, zp3_62⟩, hq_62, ⟨zr0_62, zr1_62, zr2_62, zr3_62⟩, hx_62, hz_62⟩ := HF61.out.cells; obtain ⟨yr0_62, yr1_62, yr2_62, yr3_62⟩ := four_at hq_62; have xx0_62 := hx_62 0 _ rfl; have xz0_62 := hz_62 0 (by simp); have xx1_62 := hx_62 1 _ rfl; have xz1_62 := hz_62 1 (by simp); clear hq_62 hx_62 hz_62; obtain ⟨W63, hW63, hF63⟩ := HF61.out.putx (by simp) 1 (.string ⟨#[]⟩); have HF63 := Lib.hid hF63; clear hF63; obtain ⟨⟨cp0_64, cp1_64, cp2_64, cp3_64⟩, ⟨zp1_64, zp2_64, zp3_64⟩, hq_64, ⟨zr0_64, zr1_64, zr2_64, zr3_64⟩, hx_64, hz_64⟩ := HF63.out.cells; obtain ⟨yr0_64, yr1_64, yr2_64, yr3_64⟩ := four_at hq_64; have xx0_64 := hx_64 0 _ rfl; have xz0_64 := hz_64 0 (by simp); have xx1_64 := hx_64 1 _ rfl; have xz1_64 := hz_64 1 (by simp); clear hq_64 hx_64 hz_64; obtain ⟨W65, hW65, hF65⟩ := HF63.out.four rfl (.bool true) (.int .i64 l) (.int .i64 k) (.bool false); have HF65 := Lib.hid hF65; clear hF65; obtain ⟨⟨cp0_66, cp1_66, cp2_66, cp3_66⟩, ⟨zp1_66, zp2_66, zp3_66⟩, hq_66, ⟨zr0_66, zr1_66, zr2_66, zr3_66⟩, hx_66, hz_66⟩ := HF65.out.cells; obtain ⟨yr0_66, yr1_66, yr2_66, yr3_66⟩ := four_at hq_66; have xx0_66 := hx_66 0 _ rfl; have xz0_66 := hz_66 0 (by simp); have xx1_66 := hx_66 1 _ rfl; have xz1_66 := hz_66 1 (by simp); clear hq_66 hx_66 hz_66))
      go_wp2_with fail
      refine bodyPost_ret (v := .tuple #[.agg #[.string ⟨#[]⟩, .string ⟨#[]⟩], .bool false, .agg #[.bool true, .int .i64 l, .int .i64 k, .bool false]]) (by simp [results, Tryz.results37, go_sem, yr0_66, yr1_66, yr2_66, yr3_66, xx0_66, xx1_66]) rfl ?_
      exact .inr (.inr ⟨l, k, rfl, Lib.hid (FltAt.of (p := 1) HF65.out.at_ HLK.out (t_b2 HSN.out HTOK.out HAQ.out HV.out (.inr (by rw [HNO.out]; simp))))⟩)
    have hi : (aq : Int) < (s.size : Int) := by omega
    have HD := Lib.hid (HF25.out.doneQ (b := false) (by simpa using hlt))
    have hsm := byteS hlt
    obtain ⟨c, hc⟩ : ∃ c, s[aq]'hlt = c := ⟨_, rfl⟩
    rw [hc] at hsm
    have HS := Lib.hid hsm
    have hcb := c.toNat_lt
    clear hsm
    by_cases h61 : c = 61
    rotate_left
    · have hz := cmpN (n := 61) (by decide) h61
      have hzb : ((c.toNat : Int) != 61) = true := by simpa using hz
      have H61 := Lib.hid h61
      clear h61
      go_wp2_with fail
      go_quiet ((go_at_call 35; (with_reducible refine (HD.out _).mono ?_); rintro e w2 ⟨rfl, q, rfl⟩; exact ⟨rfl, _, rfl⟩))
      have HF67 := Lib.hid (HF25.out.drew nq)
      revert HF67
      generalize World.drewN _ nq = wq67
      intro HF67
      clear cp0_24 cp1_24 cp2_24 cp3_24 zp1_24 zp2_24 zp3_24 zr0_24 zr1_24 zr2_24 zr3_24 yr0_24 yr1_24 yr2_24 yr3_24 xx0_24 xz0_24 xx1_24 xz1_24 hW25 cp0_26 cp1_26 cp2_26 cp3_26 zp1_26 zp2_26 zp3_26 zr0_26 zr1_26 zr2_26 zr3_26 yr0_26 yr1_26 yr2_26 yr3_26 xx0_26 xz0_26 xx1_26 xz1_26
      obtain ⟨⟨cp0_68, cp1_68, cp2_68, cp3_68⟩, ⟨zp1_68, zp2_68, zp3_68⟩, hq_68, ⟨zr0_68, zr1_68, zr2_68, zr3_68⟩, hx_68, hz_68⟩ := HF67.out.cells
      obtain ⟨yr0_68, yr1_68, yr2_68, yr3_68⟩ := four_at hq_68
      have xx0_68 := hx_68 0 _ rfl
      have xz0_68 := hz_68 0 (by simp)
      have xx1_68 := hx_68 1 _ rfl
      have xz1_68 := hz_68 1 (by simp)
      clear hq_68 hx_68 hz_68
      have HFU := Lib.hid (fun (w2 : World) (hb2 : But [] _ w2) => (HF67.out.quiet hb2).fault hs (i := a) (l := l) (k := k) hf ha HLK.out)
      clear HFT
      go_wp2_with fail
      go_region_held3 (fun wx => wx.cell? ⟨X, 0, none⟩ = some (.string ⟨#[]⟩) ∧ wx.cell? ⟨X, 1, none⟩ = some (.string ⟨#[]⟩)) (first | exact ⟨xx0_86, xx1_86⟩ | exact ⟨xx0_84, xx1_84⟩ | exact ⟨xx0_80, xx1_80⟩ | exact ⟨xx0_68, xx1_68⟩ | go_keep) (first | (go_at_call 73; (refine (HFU.out _ ((But.refl [] _).drew)).mono ?_); rintro e wf ⟨rfl, HFc69⟩; obtain ⟨⟨cp0_80, cp1_80, cp2_80, cp3_80⟩, ⟨zp1_80, zp2_80, zp3_80⟩, hq_80, ⟨zr0_80, zr1_80, zr2_80, zr3_80⟩, hx_80, hz_80⟩ := HFc69.out.cells; obtain ⟨yr0_80, yr1_80, yr2_80, yr3_80⟩ := four_at hq_80; have xx0_80 := hx_80 0 _ rfl; have xz0_80 := hz_80 0 (by simp); have xx1_80 := hx_80 1 _ rfl; have xz1_80 := hz_80 1 (by simp); clear hq_80 hx_80 hz_80; obtain ⟨W81, hW81, hF81⟩ := HFc69.out.putx (by simp) 0 (.string ⟨#[]⟩); have HF81 := Lib.hid hF81; clear hF81; obtain ⟨⟨cp0_82, cp1_82, cp2_82, cp3_82⟩, ⟨zp1_82, zp2_82, zp3_82⟩, hq_82, ⟨zr0_82, zr1_82, zr2_82, zr3_82⟩, hx_82, hz_82⟩ := HF81.out.cells; obtain ⟨yr0_82, yr1_82, yr2_82, yr3_82⟩ := four_at hq_82; have xx0_82 := hx_82 0 _ rfl; have xz0_82 := hz_82 0 (by simp); have xx1_82 := hx_82 1 _ rfl; have xz1_82 := hz_82 1 (by simp); clear hq_82 hx_82 hz_82; obtain ⟨W83, hW83, hF83⟩ := HF81.out.putx (by simp) 1 (.string ⟨#[]⟩); have HF83 := Lib.hid hF83; clear hF83; obtain ⟨⟨cp0_84, cp1_84, cp2_84, cp3_84⟩, ⟨zp1_84, zp2_84, zp3_84⟩, hq_84, ⟨zr0_84, zr1_84, zr2_84, zr3_84⟩, hx_84, hz_84⟩ := HF83.out.cells; obtain ⟨yr0_84, yr1_84, yr2_84, yr3_84⟩ := four_at hq_84; have xx0_84 := hx_84 0 _ rfl; have xz0_84 := hz_84 0 (by simp); have xx1_84 := hx_84 1 _ rfl; have xz1_84 := hz_84 1 (by simp); clear hq_84 hx_84 hz_84; obtain ⟨W85, hW85, hF85⟩ := HF83.out.four rfl (.bool true) (.int .i64 l) (.int .i64 k) (.bool false); have HF85 := Lib.hid hF85; clear hF85; obtain ⟨⟨cp0_86, cp1_86, cp2_86, cp3_86⟩, ⟨zp1_86, zp2_86, zp3_86⟩, hq_86, ⟨zr0_86, zr1_86, zr2_86, zr3_86⟩, hx_86, hz_86⟩ := HF85.out.cells; obtain ⟨yr0_86, yr1_86, yr2_86, yr3_86⟩ := four_at hq_86; have xx0_86 := hx_86 0 _ rfl; have xz0_86 := hz_86 0 (by simp); have xx1_86 := hx_86 1 _ rfl; have xz1_86 := hz_86 1 (by simp); clear hq_86 hx_86 hz_86))
      go_wp2_with fail
      refine bodyPost_ret (v := .tuple #[.agg #[.string ⟨#[]⟩, .string ⟨#[]⟩], .bool false, .agg #[.bool true, .int .i64 l, .int .i64 k, .bool false]]) (by simp [results, Tryz.results37, go_sem, yr0_86, yr1_86, yr2_86, yr3_86, xx0_86, xx1_86]) rfl ?_
      exact .inr (.inr ⟨l, k, rfl, Lib.hid (FltAt.of (p := 1) HF85.out.at_ HLK.out (t_b2 HSN.out HTOK.out HAQ.out HV.out (.inr (by rw [HS.out]; simpa using H61.out))))⟩)
    have hz : (c.toNat : Int) = 61 := by rw [h61]; rfl
    have hzb : ((c.toNat : Int) != 61) = false := by rw [hz]; rfl
    have H61 := Lib.hid h61
    clear h61 HFT
    go_wp2_with fail
    go_quiet ((go_at_call 35; (with_reducible refine (HD.out _).mono ?_); rintro e w2 ⟨rfl, q, rfl⟩; exact ⟨rfl, _, rfl⟩))
    have HF87 := Lib.hid (HF25.out.drew nq)
    revert HF87
    generalize World.drewN _ nq = wq87
    intro HF87
    clear cp0_24 cp1_24 cp2_24 cp3_24 zp1_24 zp2_24 zp3_24 zr0_24 zr1_24 zr2_24 zr3_24 yr0_24 yr1_24 yr2_24 yr3_24 xx0_24 xz0_24 xx1_24 xz1_24 hW25 cp0_26 cp1_26 cp2_26 cp3_26 zp1_26 zp2_26 zp3_26 zr0_26 zr1_26 zr2_26 zr3_26 yr0_26 yr1_26 yr2_26 yr3_26 xx0_26 xz0_26 xx1_26 xz1_26
    obtain ⟨⟨cp0_88, cp1_88, cp2_88, cp3_88⟩, ⟨zp1_88, zp2_88, zp3_88⟩, hq_88, ⟨zr0_88, zr1_88, zr2_88, zr3_88⟩, hx_88, hz_88⟩ := HF87.out.cells
    obtain ⟨yr0_88, yr1_88, yr2_88, yr3_88⟩ := four_at hq_88
    have xx0_88 := hx_88 0 _ rfl
    have xz0_88 := hz_88 0 (by simp)
    have xx1_88 := hx_88 1 _ rfl
    have xz1_88 := hz_88 1 (by simp)
    clear hq_88 hx_88 hz_88
    clear hz hzb hcb HD hi
    obtain ⟨a2, ha2⟩ : ∃ a2, aq + 1 = a2 := ⟨_, rfl⟩
    have hw1 : IntKind.i64.wrap ((aq : Int) + 1) = (a2 : Int) := by rw [IntKind.wrap_i64]; omega
    have HA2 := Lib.hid ha2
    have hle2 : a2 ≤ s.size := by omega
    have hf2 : f ≤ a2 := by omega
    obtain ⟨o2, q2, a3, HTOK2, HA3, hq3, hq4⟩ := tok_to (s := s) (a := a2) 2 hle2
    obtain ⟨l2, k2, HLK2⟩ := place_to s.data.toList f a2
    clear ha2
    obtain ⟨W89, hW89, hF89⟩ := HF87.out.set a2
    have HF89 := Lib.hid hF89
    clear hF89
    obtain ⟨⟨cp0_90, cp1_90, cp2_90, cp3_90⟩, ⟨zp1_90, zp2_90, zp3_90⟩, hq_90, ⟨zr0_90, zr1_90, zr2_90, zr3_90⟩, hx_90, hz_90⟩ := HF89.out.cells
    obtain ⟨yr0_90, yr1_90, yr2_90, yr3_90⟩ := four_at hq_90
    have xx0_90 := hx_90 0 _ rfl
    have xz0_90 := hz_90 0 (by simp)
    have xx1_90 := hx_90 1 _ rfl
    have xz1_90 := hz_90 1 (by simp)
    clear hq_90 hx_90 hz_90
    have HTK2 := Lib.hid (HF89.out.token hs hle2 hf2 (k := 2) (by decide) HTOK2.out HA3.out HLK2.out)
    go_wp2_with fail
    clear hc
    refine HTK2.out.mono ?_
    rintro e wt2 hT
    clear HTK2
    clear cp0_88 cp1_88 cp2_88 cp3_88 zp1_88 zp2_88 zp3_88 zr0_88 zr1_88 zr2_88 zr3_88 yr0_88 yr1_88 yr2_88 yr3_88 xx0_88 xz0_88 xx1_88 xz1_88 hW89 cp0_90 cp1_90 cp2_90 cp3_90 zp1_90 zp2_90 zp3_90 zr0_90 zr1_90 zr2_90 zr3_90 yr0_90 yr1_90 yr2_90 yr3_90 xx0_90 xz0_90 xx1_90 xz1_90
    rcases hT with ⟨hv, rfl, HFB⟩ | ⟨hv, rfl, HFB⟩
    rotate_left
    · have HV2 := Lib.hid hv
      clear hv
      obtain ⟨⟨cp0_91, cp1_91, cp2_91, cp3_91⟩, ⟨zp1_91, zp2_91, zp3_91⟩, hq_91, ⟨zr0_91, zr1_91, zr2_91, zr3_91⟩, hx_91, hz_91⟩ := HFB.out.cells
      obtain ⟨yr0_91, yr1_91, yr2_91, yr3_91⟩ := four_at hq_91
      have xx0_91 := hx_91 0 _ rfl
      have xz0_91 := hz_91 0 (by simp)
      have xx1_91 := hx_91 1 _ rfl
      have xz1_91 := hz_91 1 (by simp)
      clear hq_91 hx_91 hz_91
      obtain ⟨W92, hW92, hF92⟩ := HFB.out.four rfl (.bool true) (.int .i64 l2) (.int .i64 k2) (.bool false)
      have HF92 := Lib.hid hF92
      clear hF92
      obtain ⟨⟨cp0_93, cp1_93, cp2_93, cp3_93⟩, ⟨zp1_93, zp2_93, zp3_93⟩, hq_93, ⟨zr0_93, zr1_93, zr2_93, zr3_93⟩, hx_93, hz_93⟩ := HF92.out.cells
      obtain ⟨yr0_93, yr1_93, yr2_93, yr3_93⟩ := four_at hq_93
      have xx0_93 := hx_93 0 _ rfl
      have xz0_93 := hz_93 0 (by simp)
      have xx1_93 := hx_93 1 _ rfl
      have xz1_93 := hz_93 1 (by simp)
      clear hq_93 hx_93 hz_93
      obtain ⟨W94, hW94, hF94⟩ := HF92.out.putx (by simp) 0 (.string ⟨#[]⟩)
      have HF94 := Lib.hid hF94
      clear hF94
      obtain ⟨⟨cp0_95, cp1_95, cp2_95, cp3_95⟩, ⟨zp1_95, zp2_95, zp3_95⟩, hq_95, ⟨zr0_95, zr1_95, zr2_95, zr3_95⟩, hx_95, hz_95⟩ := HF94.out.cells
      obtain ⟨yr0_95, yr1_95, yr2_95, yr3_95⟩ := four_at hq_95
      have xx0_95 := hx_95 0 _ rfl
      have xz0_95 := hz_95 0 (by simp)
      have xx1_95 := hx_95 1 _ rfl
      have xz1_95 := hz_95 1 (by simp)
      clear hq_95 hx_95 hz_95
      obtain ⟨W96, hW96, hF96⟩ := HF94.out.putx (by simp) 1 (.string ⟨#[]⟩)
      have HF96 := Lib.hid hF96
      clear hF96
      obtain ⟨⟨cp0_97, cp1_97, cp2_97, cp3_97⟩, ⟨zp1_97, zp2_97, zp3_97⟩, hq_97, ⟨zr0_97, zr1_97, zr2_97, zr3_97⟩, hx_97, hz_97⟩ := HF96.out.cells
      obtain ⟨yr0_97, yr1_97, yr2_97, yr3_97⟩ := four_at hq_97
      have xx0_97 := hx_97 0 _ rfl
      have xz0_97 := hz_97 0 (by simp)
      have xx1_97 := hx_97 1 _ rfl
      have xz1_97 := hz_97 1 (by simp)
      clear hq_97 hx_97 hz_97
      obtain ⟨W98, hW98, hF98⟩ := HF96.out.four rfl (.bool true) (.int .i64 l2) (.int .i64 k2) (.bool false)
      have HF98 := Lib.hid hF98
      clear hF98
      obtain ⟨⟨cp0_99, cp1_99, cp2_99, cp3_99⟩, ⟨zp1_99, zp2_99, zp3_99⟩, hq_99, ⟨zr0_99, zr1_99, zr2_99, zr3_99⟩, hx_99, hz_99⟩ := HF98.out.cells
      obtain ⟨yr0_99, yr1_99, yr2_99, yr3_99⟩ := four_at hq_99
      have xx0_99 := hx_99 0 _ rfl
      have xz0_99 := hz_99 0 (by simp)
      have xx1_99 := hx_99 1 _ rfl
      have xz1_99 := hz_99 1 (by simp)
      clear hq_99 hx_99 hz_99
      go_wp2_with fail
      go_region
      go_wp2_with fail
      refine bodyPost_ret (v := .tuple #[.agg #[.string ⟨#[]⟩, .string ⟨#[]⟩], .bool false, .agg #[.bool true, .int .i64 l2, .int .i64 k2, .bool false]]) (by simp [results, Tryz.results37, go_sem, yr0_99, yr1_99, yr2_99, yr3_99, xx0_99, xx1_99]) rfl ?_
      exact .inr (.inr ⟨l2, k2, rfl, Lib.hid (FltAt.of (p := 1) (HF98.out.at_.quiet (But.drew (But.refl [] _))) HLK2.out (t_b3 HSN.out HTOK.out HAQ.out HV.out HON.out (by rw [HS.out, H61.out]) HA2.out HTOK2.out HA3.out (.inl HV2.out)))⟩)
    have HV2 := Lib.hid hv
    clear hv
    obtain ⟨⟨cp0_100, cp1_100, cp2_100, cp3_100⟩, ⟨zp1_100, zp2_100, zp3_100⟩, hq_100, ⟨zr0_100, zr1_100, zr2_100, zr3_100⟩, hx_100, hz_100⟩ := HFB.out.cells
    obtain ⟨yr0_100, yr1_100, yr2_100, yr3_100⟩ := four_at hq_100
    have xx0_100 := hx_100 0 _ rfl
    have xz0_100 := hz_100 0 (by simp)
    have xx1_100 := hx_100 1 _ rfl
    have xz1_100 := hz_100 1 (by simp)
    clear hq_100 hx_100 hz_100
    obtain ⟨W101, hW101, hF101⟩ := HFB.out.four rfl (.bool false) (.int .i64 0) (.int .i64 0) (.bool false)
    have HF101 := Lib.hid hF101
    clear hF101
    obtain ⟨⟨cp0_102, cp1_102, cp2_102, cp3_102⟩, ⟨zp1_102, zp2_102, zp3_102⟩, hq_102, ⟨zr0_102, zr1_102, zr2_102, zr3_102⟩, hx_102, hz_102⟩ := HF101.out.cells
    obtain ⟨yr0_102, yr1_102, yr2_102, yr3_102⟩ := four_at hq_102
    have xx0_102 := hx_102 0 _ rfl
    have xz0_102 := hz_102 0 (by simp)
    have xx1_102 := hx_102 1 _ rfl
    have xz1_102 := hz_102 1 (by simp)
    clear hq_102 hx_102 hz_102
    by_cases hon2 : o2 = []
    · have HON2 := Lib.hid hon2
      have hse2 : (⟨o2.toArray⟩ : ByteArray) = ⟨#[]⟩ := by rw [hon2]
      rw [hse2]
      clear hon2
      have HFU := Lib.hid (fun (w2 : World) (hb2 : But [] _ w2) => (HF101.out.quiet hb2).fault hs (i := a2) (l := l2) (k := k2) hf2 hle2 HLK2.out)
      go_wp2_with fail
      go_region_held3 (fun wx => wx.cell? ⟨X, 0, none⟩ = some (.string ⟨#[]⟩) ∧ wx.cell? ⟨X, 1, none⟩ = some (.string ⟨#[]⟩)) (first | exact ⟨xx0_120, xx1_120⟩ | exact ⟨xx0_118, xx1_118⟩ | exact ⟨xx0_114, xx1_114⟩ | exact ⟨xx0_102, xx1_102⟩ | go_keep) (first | (go_at_call 73; (refine (HFU.out _ ((But.refl [] _).drew)).mono ?_); rintro e wf ⟨rfl, HFc103⟩; obtain ⟨⟨cp0_114, cp1_114, cp2_114, cp3_114⟩, ⟨zp1_114, zp2_114, zp3_114⟩, hq_114, ⟨zr0_114, zr1_114, zr2_114, zr3_114⟩, hx_114, hz_114⟩ := HFc103.out.cells; obtain ⟨yr0_114, yr1_114, yr2_114, yr3_114⟩ := four_at hq_114; have xx0_114 := hx_114 0 _ rfl; have xz0_114 := hz_114 0 (by simp); have xx1_114 := hx_114 1 _ rfl; have xz1_114 := hz_114 1 (by simp); clear hq_114 hx_114 hz_114; obtain ⟨W115, hW115, hF115⟩ := HFc103.out.putx (by simp) 0 (.string ⟨#[]⟩); have HF115 := Lib.hid hF115; clear hF115; obtain ⟨⟨cp0_116, cp1_116, cp2_116, cp3_116⟩, ⟨zp1_116, zp2_116, zp3_116⟩, hq_116, ⟨zr0_116, zr1_116, zr2_116, zr3_116⟩, hx_116, hz_116⟩ := HF115.out.cells; obtain ⟨yr0_116, yr1_116, yr2_116, yr3_116⟩ := four_at hq_116; have xx0_116 := hx_116 0 _ rfl; have xz0_116 := hz_116 0 (by simp); have xx1_116 := hx_116 1 _ rfl; have xz1_116 := hz_116 1 (by simp); clear hq_116 hx_116 hz_116; obtain ⟨W117, hW117, hF117⟩ := HF115.out.putx (by simp) 1 (.string ⟨#[]⟩); have HF117 := Lib.hid hF117; clear hF117; obtain ⟨⟨cp0_118, cp1_118, cp2_118, cp3_118⟩, ⟨zp1_118, zp2_118, zp3_118⟩, hq_118, ⟨zr0_118, zr1_118, zr2_118, zr3_118⟩, hx_118, hz_118⟩ := HF117.out.cells; obtain ⟨yr0_118, yr1_118, yr2_118, yr3_118⟩ := four_at hq_118; have xx0_118 := hx_118 0 _ rfl; have xz0_118 := hz_118 0 (by simp); have xx1_118 := hx_118 1 _ rfl; have xz1_118 := hz_118 1 (by simp); clear hq_118 hx_118 hz_118; obtain ⟨W119, hW119, hF119⟩ := HF117.out.four rfl (.bool true) (.int .i64 l2) (.int .i64 k2) (.bool false); have HF119 := Lib.hid hF119; clear hF119; obtain ⟨⟨cp0_120, cp1_120, cp2_120, cp3_120⟩, ⟨zp1_120, zp2_120, zp3_120⟩, hq_120, ⟨zr0_120, zr1_120, zr2_120, zr3_120⟩, hx_120, hz_120⟩ := HF119.out.cells; obtain ⟨yr0_120, yr1_120, yr2_120, yr3_120⟩ := four_at hq_120; have xx0_120 := hx_120 0 _ rfl; have xz0_120 := hz_120 0 (by simp); have xx1_120 := hx_120 1 _ rfl; have xz1_120 := hz_120 1 (by simp); clear hq_120 hx_120 hz_120))
      go_wp2_with fail
      refine bodyPost_ret (v := .tuple #[.agg #[.string ⟨#[]⟩, .string ⟨#[]⟩], .bool false, .agg #[.bool true, .int .i64 l2, .int .i64 k2, .bool false]]) (by simp [results, Tryz.results37, go_sem, yr0_120, yr1_120, yr2_120, yr3_120, xx0_120, xx1_120]) rfl ?_
      exact .inr (.inr ⟨l2, k2, rfl, Lib.hid (FltAt.of (p := 1) HF119.out.at_ HLK2.out (t_b3 HSN.out HTOK.out HAQ.out HV.out HON.out (by rw [HS.out, H61.out]) HA2.out HTOK2.out HA3.out (.inr HON2.out)))⟩)
    have hse2 := str_ne hon2
    have HON2 := Lib.hid hon2
    have hsb2 : o2.isEmpty = false := by simpa using hon2
    clear hon2
    by_cases hlt3 : a3 < s.size
    rotate_left
    · have HD3 := Lib.hid (HF101.out.done (b := true) (by simpa using hlt3))
      have HL3 : Hid (s.data.toList.length ≤ a3) := Lib.hid (by simpa using hlt3)
      go_wp2_with fail
      refine HD3.out.mono ?_
      rintro e w6 ⟨rfl, HF6d⟩
      clear HD3
      clear cp0_100 cp1_100 cp2_100 cp3_100 zp1_100 zp2_100 zp3_100 zr0_100 zr1_100 zr2_100 zr3_100 yr0_100 yr1_100 yr2_100 yr3_100 xx0_100 xz0_100 xx1_100 xz1_100 hW101 cp0_102 cp1_102 cp2_102 cp3_102 zp1_102 zp2_102 zp3_102 zr0_102 zr1_102 zr2_102 zr3_102 yr0_102 yr1_102 yr2_102 yr3_102 xx0_102 xz0_102 xx1_102 xz1_102
      obtain ⟨⟨cp0_121, cp1_121, cp2_121, cp3_121⟩, ⟨zp1_121, zp2_121, zp3_121⟩, hq_121, ⟨zr0_121, zr1_121, zr2_121, zr3_121⟩, hx_121, hz_121⟩ := HF6d.out.cells
      obtain ⟨yr0_121, yr1_121, yr2_121, yr3_121⟩ := four_at hq_121
      have xx0_121 := hx_121 0 _ rfl
      have xz0_121 := hz_121 0 (by simp)
      have xx1_121 := hx_121 1 _ rfl
      have xz1_121 := hz_121 1 (by simp)
      clear hq_121 hx_121 hz_121
      obtain ⟨W122, hW122, hF122⟩ := HF6d.out.setp 2 (.int .i64 2) rfl
      have HF122 := Lib.hid hF122
      clear hF122
      obtain ⟨⟨cp0_123, cp1_123, cp2_123, cp3_123⟩, ⟨zp1_123, zp2_123, zp3_123⟩, hq_123, ⟨zr0_123, zr1_123, zr2_123, zr3_123⟩, hx_123, hz_123⟩ := HF122.out.cells
      obtain ⟨yr0_123, yr1_123, yr2_123, yr3_123⟩ := four_at hq_123
      have xx0_123 := hx_123 0 _ rfl
      have xz0_123 := hz_123 0 (by simp)
      have xx1_123 := hx_123 1 _ rfl
      have xz1_123 := hz_123 1 (by simp)
      clear hq_123 hx_123 hz_123
      obtain ⟨W124, hW124, hF124⟩ := HF122.out.putx (by simp) 0 (.string ⟨o.toArray⟩)
      have HF124 := Lib.hid hF124
      clear hF124
      obtain ⟨⟨cp0_125, cp1_125, cp2_125, cp3_125⟩, ⟨zp1_125, zp2_125, zp3_125⟩, hq_125, ⟨zr0_125, zr1_125, zr2_125, zr3_125⟩, hx_125, hz_125⟩ := HF124.out.cells
      obtain ⟨yr0_125, yr1_125, yr2_125, yr3_125⟩ := four_at hq_125
      have xx0_125 := hx_125 0 _ rfl
      have xz0_125 := hz_125 0 (by simp)
      have xx1_125 := hx_125 1 _ rfl
      have xz1_125 := hz_125 1 (by simp)
      clear hq_125 hx_125 hz_125
      obtain ⟨W126, hW126, hF126⟩ := HF124.out.putx (by simp) 1 (.string ⟨o2.toArray⟩)
      have HF126 := Lib.hid hF126
      clear hF126
      obtain ⟨⟨cp0_127, cp1_127, cp2_127, cp3_127⟩, ⟨zp1_127, zp2_127, zp3_127⟩, hq_127, ⟨zr0_127, zr1_127, zr2_127, zr3_127⟩, hx_127, hz_127⟩ := HF126.out.cells
      obtain ⟨yr0_127, yr1_127, yr2_127, yr3_127⟩ := four_at hq_127
      have xx0_127 := hx_127 0 _ rfl
      have xz0_127 := hz_127 0 (by simp)
      have xx1_127 := hx_127 1 _ rfl
      have xz1_127 := hz_127 1 (by simp)
      clear hq_127 hx_127 hz_127
      obtain ⟨W128, hW128, hF128⟩ := HF126.out.four rfl (.bool false) (.int .i64 0) (.int .i64 0) (.bool false)
      have HF128 := Lib.hid hF128
      clear hF128
      obtain ⟨⟨cp0_129, cp1_129, cp2_129, cp3_129⟩, ⟨zp1_129, zp2_129, zp3_129⟩, hq_129, ⟨zr0_129, zr1_129, zr2_129, zr3_129⟩, hx_129, hz_129⟩ := HF128.out.cells
      obtain ⟨yr0_129, yr1_129, yr2_129, yr3_129⟩ := four_at hq_129
      have xx0_129 := hx_129 0 _ rfl
      have xz0_129 := hz_129 0 (by simp)
      have xx1_129 := hx_129 1 _ rfl
      have xz1_129 := hz_129 1 (by simp)
      clear hq_129 hx_129 hz_129
      go_wp2_with fail
      go_region
      go_wp2_with fail
      refine bodyPost_ret (v := .tuple #[.agg #[.string ⟨o.toArray⟩, .string ⟨o2.toArray⟩], .bool true, .agg #[.bool false, .int .i64 0, .int .i64 0, .bool false]]) (by simp [results, Tryz.results37, go_sem, yr0_129, yr1_129, yr2_129, yr3_129, xx0_129, xx1_129]) rfl ?_
      exact .inr (.inl ⟨o, o2, _, _, _, t_b4 HSN.out HTOK.out HAQ.out HV.out HON.out (by rw [HS.out, H61.out]) HA2.out HTOK2.out HA3.out HV2.out HON2.out HL3.out, rfl, Lib.hid (HF128.out.at_.quiet (But.drew (But.refl [] _)))⟩)
    have HD3 := Lib.hid (HF101.out.done (b := false) (by simpa using hlt3))
    have HL3 : Hid (¬ s.data.toList.length ≤ a3) := Lib.hid (by simpa using hlt3)
    go_wp2_with fail
    refine HD3.out.mono ?_
    rintro e w6 ⟨rfl, HF6d⟩
    clear HD3
    clear cp0_100 cp1_100 cp2_100 cp3_100 zp1_100 zp2_100 zp3_100 zr0_100 zr1_100 zr2_100 zr3_100 yr0_100 yr1_100 yr2_100 yr3_100 xx0_100 xz0_100 xx1_100 xz1_100 hW101 cp0_102 cp1_102 cp2_102 cp3_102 zp1_102 zp2_102 zp3_102 zr0_102 zr1_102 zr2_102 zr3_102 yr0_102 yr1_102 yr2_102 yr3_102 xx0_102 xz0_102 xx1_102 xz1_102
    have HBH := Lib.hid (HF6d.out.behind hs hq4 (by omega))
    obtain ⟨⟨cp0_130, cp1_130, cp2_130, cp3_130⟩, ⟨zp1_130, zp2_130, zp3_130⟩, hq_130, ⟨zr0_130, zr1_130, zr2_130, zr3_130⟩, hx_130, hz_130⟩ := HF6d.out.cells
    obtain ⟨yr0_130, yr1_130, yr2_130, yr3_130⟩ := four_at hq_130
    have xx0_130 := hx_130 0 _ rfl
    have xz0_130 := hz_130 0 (by simp)
    have xx1_130 := hx_130 1 _ rfl
    have xz1_130 := hz_130 1 (by simp)
    clear hq_130 hx_130 hz_130
    go_wp2_with fail
    refine HBH.out.mono ?_
    rintro e w7 hB
    clear HBH
    clear cp0_130 cp1_130 cp2_130 cp3_130 zp1_130 zp2_130 zp3_130 zr0_130 zr1_130 zr2_130 zr3_130 yr0_130 yr1_130 yr2_130 yr3_130 xx0_130 xz0_130 xx1_130 xz1_130
    rcases hB with ⟨a4, HM, rfl, HFC⟩ | ⟨i, a4, l4, k4, HM, HLK4, rfl, HFC⟩
    · obtain ⟨⟨cp0_131, cp1_131, cp2_131, cp3_131⟩, ⟨zp1_131, zp2_131, zp3_131⟩, hq_131, ⟨zr0_131, zr1_131, zr2_131, zr3_131⟩, hx_131, hz_131⟩ := HFC.out.cells
      obtain ⟨yr0_131, yr1_131, yr2_131, yr3_131⟩ := four_at hq_131
      have xx0_131 := hx_131 0 _ rfl
      have xz0_131 := hz_131 0 (by simp)
      have xx1_131 := hx_131 1 _ rfl
      have xz1_131 := hz_131 1 (by simp)
      clear hq_131 hx_131 hz_131
      obtain ⟨W132, hW132, hF132⟩ := HFC.out.four rfl (.bool false) (.int .i64 0) (.int .i64 0) (.bool false)
      have HF132 := Lib.hid hF132
      clear hF132
      obtain ⟨⟨cp0_133, cp1_133, cp2_133, cp3_133⟩, ⟨zp1_133, zp2_133, zp3_133⟩, hq_133, ⟨zr0_133, zr1_133, zr2_133, zr3_133⟩, hx_133, hz_133⟩ := HF132.out.cells
      obtain ⟨yr0_133, yr1_133, yr2_133, yr3_133⟩ := four_at hq_133
      have xx0_133 := hx_133 0 _ rfl
      have xz0_133 := hz_133 0 (by simp)
      have xx1_133 := hx_133 1 _ rfl
      have xz1_133 := hz_133 1 (by simp)
      clear hq_133 hx_133 hz_133
      obtain ⟨W134, hW134, hF134⟩ := HF132.out.putx (by simp) 0 (.string ⟨o.toArray⟩)
      have HF134 := Lib.hid hF134
      clear hF134
      obtain ⟨⟨cp0_135, cp1_135, cp2_135, cp3_135⟩, ⟨zp1_135, zp2_135, zp3_135⟩, hq_135, ⟨zr0_135, zr1_135, zr2_135, zr3_135⟩, hx_135, hz_135⟩ := HF134.out.cells
      obtain ⟨yr0_135, yr1_135, yr2_135, yr3_135⟩ := four_at hq_135
      have xx0_135 := hx_135 0 _ rfl
      have xz0_135 := hz_135 0 (by simp)
      have xx1_135 := hx_135 1 _ rfl
      have xz1_135 := hz_135 1 (by simp)
      clear hq_135 hx_135 hz_135
      obtain ⟨W136, hW136, hF136⟩ := HF134.out.putx (by simp) 1 (.string ⟨o2.toArray⟩)
      have HF136 := Lib.hid hF136
      clear hF136
      obtain ⟨⟨cp0_137, cp1_137, cp2_137, cp3_137⟩, ⟨zp1_137, zp2_137, zp3_137⟩, hq_137, ⟨zr0_137, zr1_137, zr2_137, zr3_137⟩, hx_137, hz_137⟩ := HF136.out.cells
      obtain ⟨yr0_137, yr1_137, yr2_137, yr3_137⟩ := four_at hq_137
      have xx0_137 := hx_137 0 _ rfl
      have xz0_137 := hz_137 0 (by simp)
      have xx1_137 := hx_137 1 _ rfl
      have xz1_137 := hz_137 1 (by simp)
      clear hq_137 hx_137 hz_137
      obtain ⟨W138, hW138, hF138⟩ := HF136.out.four rfl (.bool false) (.int .i64 0) (.int .i64 0) (.bool false)
      have HF138 := Lib.hid hF138
      clear hF138
      obtain ⟨⟨cp0_139, cp1_139, cp2_139, cp3_139⟩, ⟨zp1_139, zp2_139, zp3_139⟩, hq_139, ⟨zr0_139, zr1_139, zr2_139, zr3_139⟩, hx_139, hz_139⟩ := HF138.out.cells
      obtain ⟨yr0_139, yr1_139, yr2_139, yr3_139⟩ := four_at hq_139
      have xx0_139 := hx_139 0 _ rfl
      have xz0_139 := hz_139 0 (by simp)
      have xx1_139 := hx_139 1 _ rfl
      have xz1_139 := hz_139 1 (by simp)
      clear hq_139 hx_139 hz_139
      go_wp2_with fail
      go_region
      go_wp2_with fail
      refine bodyPost_ret (v := .tuple #[.agg #[.string ⟨o.toArray⟩, .string ⟨o2.toArray⟩], .bool true, .agg #[.bool false, .int .i64 0, .int .i64 0, .bool false]]) (by simp [results, Tryz.results37, go_sem, yr0_139, yr1_139, yr2_139, yr3_139, xx0_139, xx1_139]) rfl ?_
      exact .inr (.inl ⟨o, o2, _, _, _, t_b5 HSN.out HTOK.out HAQ.out HV.out HON.out (by rw [HS.out, H61.out]) HA2.out HTOK2.out HA3.out HV2.out HON2.out HL3.out HM.out, rfl, Lib.hid (HF138.out.at_.quiet (But.drew (But.refl [] _)))⟩)
    · obtain ⟨⟨cp0_140, cp1_140, cp2_140, cp3_140⟩, ⟨zp1_140, zp2_140, zp3_140⟩, hq_140, ⟨zr0_140, zr1_140, zr2_140, zr3_140⟩, hx_140, hz_140⟩ := HFC.out.cells
      obtain ⟨yr0_140, yr1_140, yr2_140, yr3_140⟩ := four_at hq_140
      have xx0_140 := hx_140 0 _ rfl
      have xz0_140 := hz_140 0 (by simp)
      have xx1_140 := hx_140 1 _ rfl
      have xz1_140 := hz_140 1 (by simp)
      clear hq_140 hx_140 hz_140
      obtain ⟨W141, hW141, hF141⟩ := HFC.out.four rfl (.bool true) (.int .i64 l4) (.int .i64 k4) (.bool false)
      have HF141 := Lib.hid hF141
      clear hF141
      obtain ⟨⟨cp0_142, cp1_142, cp2_142, cp3_142⟩, ⟨zp1_142, zp2_142, zp3_142⟩, hq_142, ⟨zr0_142, zr1_142, zr2_142, zr3_142⟩, hx_142, hz_142⟩ := HF141.out.cells
      obtain ⟨yr0_142, yr1_142, yr2_142, yr3_142⟩ := four_at hq_142
      have xx0_142 := hx_142 0 _ rfl
      have xz0_142 := hz_142 0 (by simp)
      have xx1_142 := hx_142 1 _ rfl
      have xz1_142 := hz_142 1 (by simp)
      clear hq_142 hx_142 hz_142
      obtain ⟨W143, hW143, hF143⟩ := HF141.out.putx (by simp) 0 (.string ⟨#[]⟩)
      have HF143 := Lib.hid hF143
      clear hF143
      obtain ⟨⟨cp0_144, cp1_144, cp2_144, cp3_144⟩, ⟨zp1_144, zp2_144, zp3_144⟩, hq_144, ⟨zr0_144, zr1_144, zr2_144, zr3_144⟩, hx_144, hz_144⟩ := HF143.out.cells
      obtain ⟨yr0_144, yr1_144, yr2_144, yr3_144⟩ := four_at hq_144
      have xx0_144 := hx_144 0 _ rfl
      have xz0_144 := hz_144 0 (by simp)
      have xx1_144 := hx_144 1 _ rfl
      have xz1_144 := hz_144 1 (by simp)
      clear hq_144 hx_144 hz_144
      obtain ⟨W145, hW145, hF145⟩ := HF143.out.putx (by simp) 1 (.string ⟨#[]⟩)
      have HF145 := Lib.hid hF145
      clear hF145
      obtain ⟨⟨cp0_146, cp1_146, cp2_146, cp3_146⟩, ⟨zp1_146, zp2_146, zp3_146⟩, hq_146, ⟨zr0_146, zr1_146, zr2_146, zr3_146⟩, hx_146, hz_146⟩ := HF145.out.cells
      obtain ⟨yr0_146, yr1_146, yr2_146, yr3_146⟩ := four_at hq_146
      have xx0_146 := hx_146 0 _ rfl
      have xz0_146 := hz_146 0 (by simp)
      have xx1_146 := hx_146 1 _ rfl
      have xz1_146 := hz_146 1 (by simp)
      clear hq_146 hx_146 hz_146
      obtain ⟨W147, hW147, hF147⟩ := HF145.out.four rfl (.bool true) (.int .i64 l4) (.int .i64 k4) (.bool false)
      have HF147 := Lib.hid hF147
      clear hF147
      obtain ⟨⟨cp0_148, cp1_148, cp2_148, cp3_148⟩, ⟨zp1_148, zp2_148, zp3_148⟩, hq_148, ⟨zr0_148, zr1_148, zr2_148, zr3_148⟩, hx_148, hz_148⟩ := HF147.out.cells
      obtain ⟨yr0_148, yr1_148, yr2_148, yr3_148⟩ := four_at hq_148
      have xx0_148 := hx_148 0 _ rfl
      have xz0_148 := hz_148 0 (by simp)
      have xx1_148 := hx_148 1 _ rfl
      have xz1_148 := hz_148 1 (by simp)
      clear hq_148 hx_148 hz_148
      go_wp2_with fail
      go_region
      go_wp2_with fail
      refine bodyPost_ret (v := .tuple #[.agg #[.string ⟨#[]⟩, .string ⟨#[]⟩], .bool false, .agg #[.bool true, .int .i64 l4, .int .i64 k4, .bool false]]) (by simp [results, Tryz.results37, go_sem, yr0_148, yr1_148, yr2_148, yr3_148, xx0_148, xx1_148]) rfl ?_
      exact .inr (.inr ⟨l4, k4, rfl, Lib.hid (FltAt.of (p := 1) (HF147.out.at_.quiet (But.drew (But.refl [] _))) HLK4.out (t_b6 HSN.out HTOK.out HAQ.out HV.out HON.out (by rw [HS.out, H61.out]) HA2.out HTOK2.out HA3.out HV2.out HON2.out HL3.out HM.out))⟩)
end Go.Proofs.YtlcbcgillekphaaGreatDoor.sd
