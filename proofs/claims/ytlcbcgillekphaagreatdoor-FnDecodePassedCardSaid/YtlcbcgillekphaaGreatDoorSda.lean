/-
  Proved: the contract of the reference's Time.
  Conditions: a text of at most 4000 bytes.
-/
import Derived.Test.YtlcbcgillekphaaGreatDoorGe
namespace Go.Proofs.YtlcbcgillekphaaGreatDoor.sd
open Go.RowKit Mem rw ent
set_option linter.unusedVariables false
set_option linter.unusedSimpArgs false

def eolV (l : List UInt8) : Nat × Bool := match dm.eol l with | some n => (n, true) | none => (0, false)
theorem eolQ (s : ByteArray) (a : Nat) {n : Nat} {b : Bool} (h : eolV (s.data.toList.drop a) = (n, b)) (w : World) :
    Calls Tryz.prog 21 #[.string (s.extract a s.size)] w fun e w' => e = .returned (.tuple #[.int .i64 (n : Nat), .bool b]) ∧ w = w' := by
  have e1 : s.extract a s.size = ⟨(s.data.toList.drop a).toArray⟩ := by rw [← drop_ext']
  rw [e1]
  refine (eol21 _ w).mono ?_
  unfold eolV at h
  rintro e w' ⟨rfl, ⟨m, h1, rfl⟩ | ⟨h1, rfl⟩⟩
  · rw [h1] at h
    injection h with h2 h3
    subst h2; subst h3
    exact ⟨rfl, rfl⟩
  · rw [h1] at h
    injection h with h2 h3
    subst h2; subst h3
    exact ⟨rfl, rfl⟩
theorem eolV_some {l : List UInt8} {n : Nat} (h : eolV l = (n, true)) : dm.eol l = some n := by
  unfold eolV at h
  cases h1 : dm.eol l with
  | none => rw [h1] at h; simp at h
  | some m => rw [h1] at h; simp at h; rw [h]
theorem eolV_none {l : List UInt8} {n : Nat} (h : eolV l = (n, false)) : dm.eol l = none ∧ n = 0 := by
  unfold eolV at h
  cases h1 : dm.eol l with
  | none => rw [h1] at h; simp at h; exact ⟨rfl, h.symm⟩
  | some m => rw [h1] at h; simp at h
theorem eol_le {l : List UInt8} {n : Nat} (h : dm.eol l = some n) : n ≤ l.length := by
  unfold dm.eol at h
  cases l with
  | nil => simp at h; omega
  | cons c t =>
    simp only at h
    split at h
    · simp at h; simp; omega
    · split at h
      · cases t with
        | nil => simp at h; simp; omega
        | cons d r =>
          simp only at h
          split at h
          · simp at h; simp; omega
          · cases h
      · cases h
theorem eolV_le {s : ByteArray} {a n : Nat} {b : Bool} (h : eolV (s.data.toList.drop a) = (n, b)) (ha : a ≤ s.size) : a + n ≤ s.size := by
  cases b with
  | false => rw [(eolV_none h).2]; exact ha
  | true =>
    have := eol_le (eolV_some h)
    rw [List.length_drop] at this
    have hll : s.data.toList.length = s.size := by simp
    omega
theorem nx_white {T : List UInt8} {a : Nat} {c : UInt8} (h : T[a]? = some c) : nx T a 1 = dm.white c := by unfold nx; rw [h]; rfl
section
variable {T : List UInt8} {a f n aq n2 a3 q a4 pp : Nat} {t1 : List UInt8} {c : UInt8}
theorem take_run {p : UInt8 → Bool} {l : List UInt8} (h : n = dm.runN p l) : (l.take n = [] → n = 0) ∧ (l.take n ≠ [] → n ≠ 0) := by
  subst h
  have := dm.runN_le p l
  constructor
  · intro h
    have h2 : (l.take (dm.runN p l)).length = 0 := by rw [h]; rfl
    rw [List.length_take] at h2
    omega
  · intro h h2
    rw [h2] at h
    simp at h
theorem tm_b1 (h1 : n = dm.runN (dm.inS 10) (T.drop a)) (h2 : a + n = aq) (h3 : pp = if n = 0 then 5 else 3) (h4 : T[aq]? = some c) (h5 : dm.white c = false) (h6 : n2 = dm.runN (dm.inS 12) (T.drop aq)) (h7 : aq + n2 = a3) : dm.timeM T ⟨a, 3, f⟩ = dm.flt T ⟨a3, pp, f⟩ a := by
  subst h2; subst h1; subst h7; subst h6; subst h3; simp [dm.timeM, h4, h5]
theorem tm_s (h1 : n = dm.runN (dm.inS 10) (T.drop a)) (h2 : a + n = aq) (h3 : (T.drop a).take n = t1) (h4 : T[aq]? = none ∨ ∃ c, T[aq]? = some c ∧ dm.white c = true) (h6 : n2 = dm.runN (dm.inS 0) (T.drop aq)) (h7 : aq + n2 = a3) (h8 : dm.eol (T.drop a3) = some q) (h9 : a3 + q = a4) : dm.timeM T ⟨a, 3, f⟩ = (.some t1, ⟨a4, 5, f⟩) := by
  subst h2; subst h3; subst h1
  rcases h4 with h4 | ⟨c, h4, h5⟩
  · have hl : T.drop (a + dm.runN (dm.inS 10) (T.drop a)) = [] := List.drop_eq_nil_of_le (by simpa using h4)
    rw [hl] at h6
    have h0 : n2 = 0 := by rw [h6]; rfl
    subst h0
    subst h7
    rw [Nat.add_zero, hl] at h8
    have hq : q = 0 := by simpa [dm.eol] using h8.symm
    subst hq
    subst h9
    simp [dm.timeM, h4]
  · subst h7; subst h6; subst h9
    simp [dm.timeM, h4, h5, h8]
theorem tm_b2 (h1 : n = dm.runN (dm.inS 10) (T.drop a)) (h2 : a + n = aq) (h3 : pp = if n = 0 then 5 else 3) (h4 : T[aq]? = none ∨ ∃ c, T[aq]? = some c ∧ dm.white c = true) (h6 : n2 = dm.runN (dm.inS 0) (T.drop aq)) (h7 : aq + n2 = a3) (h8 : dm.eol (T.drop a3) = none) (h9 : q = dm.runN (dm.inS 12) (T.drop a3)) (h10 : a3 + q = a4) : dm.timeM T ⟨a, 3, f⟩ = dm.flt T ⟨a4, pp, f⟩ a3 := by
  subst h2; subst h3; subst h1
  rcases h4 with h4 | ⟨c, h4, h5⟩
  · have hl : T.drop (a + dm.runN (dm.inS 10) (T.drop a)) = [] := List.drop_eq_nil_of_le (by simpa using h4)
    rw [hl] at h6
    have h0 : n2 = 0 := by rw [h6]; rfl
    subst h0
    subst h7
    rw [Nat.add_zero, hl] at h8
    cases h8
  · subst h7; subst h6; subst h10; subst h9
    simp [dm.timeM, h4, h5, h8]
end
def TmOut (P : Nat) (s : ByteArray) (r : dm.Res (List UInt8) × dm.M) (w : World) (e : Ending) (w' : World) : Prop :=
  (∃ a' p' f', r = (.none, ⟨a', p', f'⟩) ∧ e = .returned (.tuple #[.string ⟨#[]⟩, .bool false, .agg #[.bool false, .int .i64 0, .int .i64 0, .bool false]]) ∧ Hid (At w P s a' p' f' w')) ∨
  (∃ o a' p' f', r = (.some o, ⟨a', p', f'⟩) ∧ e = .returned (.tuple #[.string (strB o), .bool (!o.isEmpty), .agg #[.bool false, .int .i64 0, .int .i64 0, .bool false]]) ∧ Hid (At w P s a' p' f' w')) ∨
  (∃ l k, e = .returned (.tuple #[.string ⟨#[]⟩, .bool false, .agg #[.bool true, .int .i64 (l : Nat), .int .i64 (k : Nat), .bool false]]) ∧ Hid (FltAt P s r w w' l k))
set_option maxRecDepth 100000 in
set_option maxHeartbeats 8000000 in
theorem time39n (P : Nat) (s : ByteArray) (hs : s.size ≤ 4000) (a f : Nat) (w : World) (h : SD w P s a 5 f) (ha : a ≤ s.size) (hf : f ≤ a) :
    Calls Tryz.prog 39 #[.pointer (some ⟨P, 0, none⟩)] w (TmOut P s (dm.timeM s.data.toList ⟨a, 5, f⟩) w) := by
  obtain ⟨W, hW⟩ : ∃ W, w.alloc (.cells #[.bool false, .int .i64 0, .int .i64 0, .bool false] 39) = W := ⟨_, rfl⟩
  have hb : But [] w W := hW ▸ (But.refl [] w).alloc _
  have hR : Rw W w.heap.size [.bool false, .int .i64 0, .int .i64 0, .bool false] 39 := hW ▸ Rw.new w _ _
  have hPl := Rw.lt h
  have H0 : Hid (FS w P s w.heap.size [.bool false, .int .i64 0, .int .i64 0, .bool false] (w.heap.size + 1) [] 39 a 5 f W) := Lib.hid ⟨At.quiet (At.refl h) hb, hR, fun e => absurd rfl e, Nat.le_refl _, Nat.le_succ _, by omega, by omega, by omega⟩
  obtain ⟨R, hRn⟩ : ∃ R, w.heap.size = R := ⟨_, rfl⟩
  obtain ⟨X, hXn⟩ : ∃ X, w.heap.size + 1 = X := ⟨_, rfl⟩
  rw [hXn, hRn] at H0
  clear hXn
  obtain ⟨⟨cp0_1, cp1_1, cp2_1, cp3_1⟩, ⟨zp1_1, zp2_1, zp3_1⟩, hq_1, ⟨zr0_1, zr1_1, zr2_1, zr3_1⟩, hx_1, hz_1⟩ := H0.out.cells
  obtain ⟨yr0_1, yr1_1, yr2_1, yr3_1⟩ := four_at hq_1
  clear hq_1 hx_1 hz_1
  have HSK := Lib.hid (H0.out.skip (t := 3) (by decide) (by decide) (by decide) (by decide))
  clear h
  go_enter Tryz.func39, Tryz.ntmps39
  go_wp2_with fail
  refine HSK.out.mono ?_
  rintro e w1 ⟨rfl, HF1⟩
  clear hW
  clear cp0_1 cp1_1 cp2_1 cp3_1 zp1_1 zp2_1 zp3_1 zr0_1 zr1_1 zr2_1 zr3_1 yr0_1 yr1_1 yr2_1 yr3_1
  obtain ⟨⟨cp0_2, cp1_2, cp2_2, cp3_2⟩, ⟨zp1_2, zp2_2, zp3_2⟩, hq_2, ⟨zr0_2, zr1_2, zr2_2, zr3_2⟩, hx_2, hz_2⟩ := HF1.out.cells
  obtain ⟨yr0_2, yr1_2, yr2_2, yr3_2⟩ := four_at hq_2
  clear hq_2 hx_2 hz_2
  obtain ⟨W3, hW3, hF3⟩ := HF1.out.four rfl (.bool false) (.int .i64 0) (.int .i64 0) (.bool false)
  have HF3 := Lib.hid hF3
  clear hF3
  obtain ⟨⟨cp0_4, cp1_4, cp2_4, cp3_4⟩, ⟨zp1_4, zp2_4, zp3_4⟩, hq_4, ⟨zr0_4, zr1_4, zr2_4, zr3_4⟩, hx_4, hz_4⟩ := HF3.out.cells
  obtain ⟨yr0_4, yr1_4, yr2_4, yr3_4⟩ := four_at hq_4
  clear hq_4 hx_4 hz_4
  obtain ⟨W5, hW5, hF5⟩ := HF3.out.four rfl (.bool false) (.int .i64 0) (.int .i64 0) (.bool false)
  have HF5 := Lib.hid hF5
  clear hF5
  obtain ⟨⟨cp0_6, cp1_6, cp2_6, cp3_6⟩, ⟨zp1_6, zp2_6, zp3_6⟩, hq_6, ⟨zr0_6, zr1_6, zr2_6, zr3_6⟩, hx_6, hz_6⟩ := HF5.out.cells
  obtain ⟨yr0_6, yr1_6, yr2_6, yr3_6⟩ := four_at hq_6
  clear hq_6 hx_6 hz_6
  go_wp2_with fail
  go_region
  go_wp2_with fail
  refine bodyPost_ret (v := .tuple #[.string ⟨#[]⟩, .bool false, .agg #[.bool false, .int .i64 0, .int .i64 0, .bool false]]) (by simp [results, Tryz.results39, go_sem, yr0_6, yr1_6, yr2_6, yr3_6]) rfl ?_
  exact .inl ⟨_, _, _, by simp [dm.timeM], rfl, Lib.hid (HF5.out.at_.quiet (But.drew (But.refl [] _)))⟩
set_option maxRecDepth 100000 in
set_option maxHeartbeats 8000000 in
theorem time39 (P : Nat) (s : ByteArray) (hs : s.size ≤ 4000) (a f : Nat) (w : World) (h : SD w P s a 3 f) (ha : a ≤ s.size) (hf : f ≤ a) :
    Calls Tryz.prog 39 #[.pointer (some ⟨P, 0, none⟩)] w (TmOut P s (dm.timeM s.data.toList ⟨a, 3, f⟩) w) := by
  obtain ⟨W, hW⟩ : ∃ W, w.alloc (.cells #[.bool false, .int .i64 0, .int .i64 0, .bool false] 39) = W := ⟨_, rfl⟩
  have hb : But [] w W := hW ▸ (But.refl [] w).alloc _
  have hR : Rw W w.heap.size [.bool false, .int .i64 0, .int .i64 0, .bool false] 39 := hW ▸ Rw.new w _ _
  have hPl := Rw.lt h
  have H0 : Hid (FS w P s w.heap.size [.bool false, .int .i64 0, .int .i64 0, .bool false] (w.heap.size + 1) [] 39 a 3 f W) := Lib.hid ⟨At.quiet (At.refl h) hb, hR, fun e => absurd rfl e, Nat.le_refl _, Nat.le_succ _, by omega, by omega, by omega⟩
  obtain ⟨R, hRn⟩ : ∃ R, w.heap.size = R := ⟨_, rfl⟩
  obtain ⟨X, hXn⟩ : ∃ X, w.heap.size + 1 = X := ⟨_, rfl⟩
  rw [hXn, hRn] at H0
  clear hXn
  obtain ⟨⟨cp0_1, cp1_1, cp2_1, cp3_1⟩, ⟨zp1_1, zp2_1, zp3_1⟩, hq_1, ⟨zr0_1, zr1_1, zr2_1, zr3_1⟩, hx_1, hz_1⟩ := H0.out.cells
  obtain ⟨yr0_1, yr1_1, yr2_1, yr3_1⟩ := four_at hq_1
  clear hq_1 hx_1 hz_1
  have HSK := Lib.hid (H0.out.skip (t := 3) (by decide) (by decide) (by decide) (by decide))
  clear h
  obtain ⟨n, aq, HN, HAQ, hq1, hq2⟩ := run_to (s := s) (a := a) 10 ha
  have hfq : f ≤ aq := by omega
  obtain ⟨t1, ht1⟩ : ∃ t1, (s.data.toList.drop a).take n = t1 := ⟨_, rfl⟩
  have HT1 := Lib.hid ht1
  obtain ⟨l, k, HLK⟩ := place_to s.data.toList f a
  obtain ⟨n2, a3, HN2, HA3, hq3, hq4⟩ := run_to (s := s) (a := aq) 0 hq2
  have hf3 : f ≤ a3 := by omega
  have hai : (a3 : Int) ≤ (s.size : Int) := by omega
  obtain ⟨N, be, heo⟩ : ∃ N be, eolV (s.data.toList.drop a3) = (N, be) := ⟨_, _, rfl⟩
  have HEV := Lib.hid heo
  have HEO := Lib.hid (eolQ s a3 heo)
  have hN := eolV_le heo hq4
  clear heo
  go_enter Tryz.func39, Tryz.ntmps39
  go_wp2_with fail
  refine HSK.out.mono ?_
  rintro e w1 ⟨rfl, HF1⟩
  clear hW HSK
  clear cp0_1 cp1_1 cp2_1 cp3_1 zp1_1 zp2_1 zp3_1 zr0_1 zr1_1 zr2_1 zr3_1 yr0_1 yr1_1 yr2_1 yr3_1
  obtain ⟨⟨cp0_2, cp1_2, cp2_2, cp3_2⟩, ⟨zp1_2, zp2_2, zp3_2⟩, hq_2, ⟨zr0_2, zr1_2, zr2_2, zr3_2⟩, hx_2, hz_2⟩ := HF1.out.cells
  obtain ⟨yr0_2, yr1_2, yr2_2, yr3_2⟩ := four_at hq_2
  clear hq_2 hx_2 hz_2
  obtain ⟨W3, hW3, hF3⟩ := HF1.out.four rfl (.bool false) (.int .i64 0) (.int .i64 0) (.bool false)
  have HF3 := Lib.hid hF3
  clear hF3
  obtain ⟨⟨cp0_4, cp1_4, cp2_4, cp3_4⟩, ⟨zp1_4, zp2_4, zp3_4⟩, hq_4, ⟨zr0_4, zr1_4, zr2_4, zr3_4⟩, hx_4, hz_4⟩ := HF3.out.cells
  obtain ⟨yr0_4, yr1_4, yr2_4, yr3_4⟩ := four_at hq_4
  clear hq_4 hx_4 hz_4
  have HRU := Lib.hid (HF3.out.run hs ha (k := 10) (by decide) HN.out HAQ.out)
  rw [ht1] at HRU
  clear ht1
  go_wp2_with fail
  refine HRU.out.mono ?_
  rintro e w3 ⟨rfl, HF3r⟩
  clear HRU
  clear cp0_2 cp1_2 cp2_2 cp3_2 zp1_2 zp2_2 zp3_2 zr0_2 zr1_2 zr2_2 zr3_2 yr0_2 yr1_2 yr2_2 yr3_2 hW3 cp0_4 cp1_4 cp2_4 cp3_4 zp1_4 zp2_4 zp3_4 zr0_4 zr1_4 zr2_4 zr3_4 yr0_4 yr1_4 yr2_4 yr3_4
  obtain ⟨⟨cp0_5, cp1_5, cp2_5, cp3_5⟩, ⟨zp1_5, zp2_5, zp3_5⟩, hq_5, ⟨zr0_5, zr1_5, zr2_5, zr3_5⟩, hx_5, hz_5⟩ := HF3r.out.cells
  obtain ⟨yr0_5, yr1_5, yr2_5, yr3_5⟩ := four_at hq_5
  clear hq_5 hx_5 hz_5
  by_cases hon : t1 = []
  · have HON := Lib.hid hon
    have hse : (⟨t1.toArray⟩ : ByteArray) = ⟨#[]⟩ := by rw [hon]
    have HPP : Hid (5 = if n = 0 then 5 else 3) := Lib.hid (by rw [if_pos ((take_run HN.out).1 (HT1.out.trans hon))])
    rw [hse]
    clear hon
    obtain ⟨W6, hW6, hF6⟩ := HF3r.out.setp 5 (.int .i64 5) rfl
    have HF6 := Lib.hid hF6
    clear hF6
    obtain ⟨⟨cp0_7, cp1_7, cp2_7, cp3_7⟩, ⟨zp1_7, zp2_7, zp3_7⟩, hq_7, ⟨zr0_7, zr1_7, zr2_7, zr3_7⟩, hx_7, hz_7⟩ := HF6.out.cells
    obtain ⟨yr0_7, yr1_7, yr2_7, yr3_7⟩ := four_at hq_7
    clear hq_7 hx_7 hz_7
    by_cases hlt : aq < s.size
    rotate_left
    · have HD := Lib.hid (HF6.out.done (b := true) (by simpa using hlt))
      have HNO : Hid (s.data.toList[aq]? = none) := Lib.hid (List.getElem?_eq_none (by simpa using hlt))
      go_wp2_with fail
      refine HD.out.mono ?_
      rintro e w4 ⟨rfl, HF4d⟩
      clear HD
      clear cp0_5 cp1_5 cp2_5 cp3_5 zp1_5 zp2_5 zp3_5 zr0_5 zr1_5 zr2_5 zr3_5 yr0_5 yr1_5 yr2_5 yr3_5 hW6 cp0_7 cp1_7 cp2_7 cp3_7 zp1_7 zp2_7 zp3_7 zr0_7 zr1_7 zr2_7 zr3_7 yr0_7 yr1_7 yr2_7 yr3_7
      obtain ⟨⟨cp0_8, cp1_8, cp2_8, cp3_8⟩, ⟨zp1_8, zp2_8, zp3_8⟩, hq_8, ⟨zr0_8, zr1_8, zr2_8, zr3_8⟩, hx_8, hz_8⟩ := HF4d.out.cells
      obtain ⟨yr0_8, yr1_8, yr2_8, yr3_8⟩ := four_at hq_8
      clear hq_8 hx_8 hz_8
      have HR0 := Lib.hid (HF4d.out.run hs hq2 (k := 0) (by decide) HN2.out HA3.out)
      go_wp2_with fail
      refine HR0.out.mono ?_
      rintro e w5 ⟨rfl, HF5r⟩
      clear HR0
      clear cp0_8 cp1_8 cp2_8 cp3_8 zp1_8 zp2_8 zp3_8 zr0_8 zr1_8 zr2_8 zr3_8 yr0_8 yr1_8 yr2_8 yr3_8
      obtain ⟨⟨cp0_9, cp1_9, cp2_9, cp3_9⟩, ⟨zp1_9, zp2_9, zp3_9⟩, hq_9, ⟨zr0_9, zr1_9, zr2_9, zr3_9⟩, hx_9, hz_9⟩ := HF5r.out.cells
      obtain ⟨yr0_9, yr1_9, yr2_9, yr3_9⟩ := four_at hq_9
      clear hq_9 hx_9 hz_9
      go_wp2_with fail
      go_quiet ((go_at_call 21; (with_reducible refine (HEO.out _).mono ?_); rintro e w2 ⟨rfl, rfl⟩; exact ⟨rfl, _, rfl⟩))
      have HF10 := Lib.hid (HF5r.out.drew nq)
      revert HF10
      generalize World.drewN _ nq = wq10
      intro HF10
      clear HEO
      clear cp0_9 cp1_9 cp2_9 cp3_9 zp1_9 zp2_9 zp3_9 zr0_9 zr1_9 zr2_9 zr3_9 yr0_9 yr1_9 yr2_9 yr3_9
      obtain ⟨⟨cp0_11, cp1_11, cp2_11, cp3_11⟩, ⟨zp1_11, zp2_11, zp3_11⟩, hq_11, ⟨zr0_11, zr1_11, zr2_11, zr3_11⟩, hx_11, hz_11⟩ := HF10.out.cells
      obtain ⟨yr0_11, yr1_11, yr2_11, yr3_11⟩ := four_at hq_11
      clear hq_11 hx_11 hz_11
      cases be with
      | true =>
        obtain ⟨a4, ha4⟩ : ∃ a4, a3 + N = a4 := ⟨_, rfl⟩
        have HA4 := Lib.hid ha4
        have hw4 : IntKind.i64.wrap ((a3 : Int) + (N : Int)) = (a4 : Int) := by rw [IntKind.wrap_i64]; omega
        clear ha4
        obtain ⟨W12, hW12, hF12⟩ := HF10.out.set a4
        have HF12 := Lib.hid hF12
        clear hF12
        obtain ⟨⟨cp0_13, cp1_13, cp2_13, cp3_13⟩, ⟨zp1_13, zp2_13, zp3_13⟩, hq_13, ⟨zr0_13, zr1_13, zr2_13, zr3_13⟩, hx_13, hz_13⟩ := HF12.out.cells
        obtain ⟨yr0_13, yr1_13, yr2_13, yr3_13⟩ := four_at hq_13
        clear hq_13 hx_13 hz_13
        obtain ⟨W14, hW14, hF14⟩ := HF12.out.setp 5 (.int .i64 5) rfl
        have HF14 := Lib.hid hF14
        clear hF14
        obtain ⟨⟨cp0_15, cp1_15, cp2_15, cp3_15⟩, ⟨zp1_15, zp2_15, zp3_15⟩, hq_15, ⟨zr0_15, zr1_15, zr2_15, zr3_15⟩, hx_15, hz_15⟩ := HF14.out.cells
        obtain ⟨yr0_15, yr1_15, yr2_15, yr3_15⟩ := four_at hq_15
        clear hq_15 hx_15 hz_15
        obtain ⟨W16, hW16, hF16⟩ := HF14.out.four rfl (.bool false) (.int .i64 0) (.int .i64 0) (.bool false)
        have HF16 := Lib.hid hF16
        clear hF16
        obtain ⟨⟨cp0_17, cp1_17, cp2_17, cp3_17⟩, ⟨zp1_17, zp2_17, zp3_17⟩, hq_17, ⟨zr0_17, zr1_17, zr2_17, zr3_17⟩, hx_17, hz_17⟩ := HF16.out.cells
        obtain ⟨yr0_17, yr1_17, yr2_17, yr3_17⟩ := four_at hq_17
        clear hq_17 hx_17 hz_17
        go_wp2_with fail
        go_region
        go_wp2_with fail
        refine bodyPost_ret (v := .tuple #[.string ⟨#[]⟩, .bool false, .agg #[.bool false, .int .i64 0, .int .i64 0, .bool false]]) (by simp [results, Tryz.results39, go_sem, yr0_17, yr1_17, yr2_17, yr3_17]) rfl ?_
        exact .inr (.inl ⟨[], _, _, _, by rw [← HON.out]; exact tm_s HN.out HAQ.out HT1.out (.inl HNO.out) HN2.out HA3.out (eolV_some HEV.out) HA4.out, rfl, Lib.hid (HF16.out.at_.quiet (But.drew (But.refl [] _)))⟩)
      | false =>
        obtain ⟨n5, a5, HN5, HA5, hq5, hq6⟩ := run_to (s := s) (a := a3) 12 hq4
        obtain ⟨l3, k3, HLK3⟩ := place_to s.data.toList f a3
        have HR5 := Lib.hid (HF10.out.run hs hq4 (k := 12) (by decide) HN5.out HA5.out)
        go_wp2_with fail
        refine HR5.out.mono ?_
        rintro e w6 ⟨rfl, HF6r⟩
        clear HR5
        clear cp0_11 cp1_11 cp2_11 cp3_11 zp1_11 zp2_11 zp3_11 zr0_11 zr1_11 zr2_11 zr3_11 yr0_11 yr1_11 yr2_11 yr3_11
        obtain ⟨⟨cp0_18, cp1_18, cp2_18, cp3_18⟩, ⟨zp1_18, zp2_18, zp3_18⟩, hq_18, ⟨zr0_18, zr1_18, zr2_18, zr3_18⟩, hx_18, hz_18⟩ := HF6r.out.cells
        obtain ⟨yr0_18, yr1_18, yr2_18, yr3_18⟩ := four_at hq_18
        clear hq_18 hx_18 hz_18
        have HFT := Lib.hid (HF6r.out.fault hs hf3 hq4 HLK3.out)
        go_wp2_with fail
        refine HFT.out.mono ?_
        rintro e w7 ⟨rfl, HF7r⟩
        clear HFT
        clear cp0_18 cp1_18 cp2_18 cp3_18 zp1_18 zp2_18 zp3_18 zr0_18 zr1_18 zr2_18 zr3_18 yr0_18 yr1_18 yr2_18 yr3_18
        obtain ⟨⟨cp0_19, cp1_19, cp2_19, cp3_19⟩, ⟨zp1_19, zp2_19, zp3_19⟩, hq_19, ⟨zr0_19, zr1_19, zr2_19, zr3_19⟩, hx_19, hz_19⟩ := HF7r.out.cells
        obtain ⟨yr0_19, yr1_19, yr2_19, yr3_19⟩ := four_at hq_19
        clear hq_19 hx_19 hz_19
        obtain ⟨W20, hW20, hF20⟩ := HF7r.out.four rfl (.bool true) (.int .i64 l3) (.int .i64 k3) (.bool false)
        have HF20 := Lib.hid hF20
        clear hF20
        obtain ⟨⟨cp0_21, cp1_21, cp2_21, cp3_21⟩, ⟨zp1_21, zp2_21, zp3_21⟩, hq_21, ⟨zr0_21, zr1_21, zr2_21, zr3_21⟩, hx_21, hz_21⟩ := HF20.out.cells
        obtain ⟨yr0_21, yr1_21, yr2_21, yr3_21⟩ := four_at hq_21
        clear hq_21 hx_21 hz_21
        go_wp2_with fail
        refine bodyPost_ret (v := .tuple #[.string ⟨#[]⟩, .bool false, .agg #[.bool true, .int .i64 l3, .int .i64 k3, .bool false]]) (by simp [results, Tryz.results39, go_sem, yr0_21, yr1_21, yr2_21, yr3_21]) rfl ?_
        exact .inr (.inr ⟨l3, k3, rfl, Lib.hid (FltAt.of (p := 5) HF20.out.at_ HLK3.out (tm_b2 HN.out HAQ.out HPP.out (.inl HNO.out) HN2.out HA3.out (eolV_none HEV.out).1 HN5.out HA5.out))⟩)
    have HD := Lib.hid (HF6.out.done (b := false) (by simpa using hlt))
    have hsm := byteS hlt
    obtain ⟨c, hc⟩ : ∃ c, s[aq]'hlt = c := ⟨_, rfl⟩
    rw [hc] at hsm
    obtain ⟨bw, hbw⟩ : ∃ bw, dm.white c = bw := ⟨_, rfl⟩
    have HS := Lib.hid hsm
    have HW := Lib.hid hbw
    have hnx := (nx_white hsm).trans hbw
    have HNXB := Lib.hid hnx
    clear hsm hbw hnx hc
    go_wp2_with fail
    refine HD.out.mono ?_
    rintro e w4 ⟨rfl, HF4d⟩
    clear HD
    clear cp0_5 cp1_5 cp2_5 cp3_5 zp1_5 zp2_5 zp3_5 zr0_5 zr1_5 zr2_5 zr3_5 yr0_5 yr1_5 yr2_5 yr3_5 hW6 cp0_7 cp1_7 cp2_7 cp3_7 zp1_7 zp2_7 zp3_7 zr0_7 zr1_7 zr2_7 zr3_7 yr0_7 yr1_7 yr2_7 yr3_7
    have HNX := Lib.hid (HF4d.out.next (k := 1) (by decide) HNXB.out)
    obtain ⟨⟨cp0_22, cp1_22, cp2_22, cp3_22⟩, ⟨zp1_22, zp2_22, zp3_22⟩, hq_22, ⟨zr0_22, zr1_22, zr2_22, zr3_22⟩, hx_22, hz_22⟩ := HF4d.out.cells
    obtain ⟨yr0_22, yr1_22, yr2_22, yr3_22⟩ := four_at hq_22
    clear hq_22 hx_22 hz_22
    go_wp2_with fail
    refine HNX.out.mono ?_
    rintro e w4n ⟨rfl, HF4n⟩
    clear HNX
    clear cp0_22 cp1_22 cp2_22 cp3_22 zp1_22 zp2_22 zp3_22 zr0_22 zr1_22 zr2_22 zr3_22 yr0_22 yr1_22 yr2_22 yr3_22
    obtain ⟨⟨cp0_23, cp1_23, cp2_23, cp3_23⟩, ⟨zp1_23, zp2_23, zp3_23⟩, hq_23, ⟨zr0_23, zr1_23, zr2_23, zr3_23⟩, hx_23, hz_23⟩ := HF4n.out.cells
    obtain ⟨yr0_23, yr1_23, yr2_23, yr3_23⟩ := four_at hq_23
    clear hq_23 hx_23 hz_23
    cases bw with
    | true =>
      have HR0 := Lib.hid (HF4n.out.run hs hq2 (k := 0) (by decide) HN2.out HA3.out)
      go_wp2_with fail
      refine HR0.out.mono ?_
      rintro e w5 ⟨rfl, HF5r⟩
      clear HR0
      clear cp0_23 cp1_23 cp2_23 cp3_23 zp1_23 zp2_23 zp3_23 zr0_23 zr1_23 zr2_23 zr3_23 yr0_23 yr1_23 yr2_23 yr3_23
      obtain ⟨⟨cp0_24, cp1_24, cp2_24, cp3_24⟩, ⟨zp1_24, zp2_24, zp3_24⟩, hq_24, ⟨zr0_24, zr1_24, zr2_24, zr3_24⟩, hx_24, hz_24⟩ := HF5r.out.cells
      obtain ⟨yr0_24, yr1_24, yr2_24, yr3_24⟩ := four_at hq_24
      clear hq_24 hx_24 hz_24
      go_wp2_with fail
      go_quiet ((go_at_call 21; (with_reducible refine (HEO.out _).mono ?_); rintro e w2 ⟨rfl, rfl⟩; exact ⟨rfl, _, rfl⟩))
      have HF25 := Lib.hid (HF5r.out.drew nq)
      revert HF25
      generalize World.drewN _ nq = wq25
      intro HF25
      clear HEO
      clear cp0_24 cp1_24 cp2_24 cp3_24 zp1_24 zp2_24 zp3_24 zr0_24 zr1_24 zr2_24 zr3_24 yr0_24 yr1_24 yr2_24 yr3_24
      obtain ⟨⟨cp0_26, cp1_26, cp2_26, cp3_26⟩, ⟨zp1_26, zp2_26, zp3_26⟩, hq_26, ⟨zr0_26, zr1_26, zr2_26, zr3_26⟩, hx_26, hz_26⟩ := HF25.out.cells
      obtain ⟨yr0_26, yr1_26, yr2_26, yr3_26⟩ := four_at hq_26
      clear hq_26 hx_26 hz_26
      cases be with
      | true =>
        obtain ⟨a4, ha4⟩ : ∃ a4, a3 + N = a4 := ⟨_, rfl⟩
        have HA4 := Lib.hid ha4
        have hw4 : IntKind.i64.wrap ((a3 : Int) + (N : Int)) = (a4 : Int) := by rw [IntKind.wrap_i64]; omega
        clear ha4
        obtain ⟨W27, hW27, hF27⟩ := HF25.out.set a4
        have HF27 := Lib.hid hF27
        clear hF27
        obtain ⟨⟨cp0_28, cp1_28, cp2_28, cp3_28⟩, ⟨zp1_28, zp2_28, zp3_28⟩, hq_28, ⟨zr0_28, zr1_28, zr2_28, zr3_28⟩, hx_28, hz_28⟩ := HF27.out.cells
        obtain ⟨yr0_28, yr1_28, yr2_28, yr3_28⟩ := four_at hq_28
        clear hq_28 hx_28 hz_28
        obtain ⟨W29, hW29, hF29⟩ := HF27.out.setp 5 (.int .i64 5) rfl
        have HF29 := Lib.hid hF29
        clear hF29
        obtain ⟨⟨cp0_30, cp1_30, cp2_30, cp3_30⟩, ⟨zp1_30, zp2_30, zp3_30⟩, hq_30, ⟨zr0_30, zr1_30, zr2_30, zr3_30⟩, hx_30, hz_30⟩ := HF29.out.cells
        obtain ⟨yr0_30, yr1_30, yr2_30, yr3_30⟩ := four_at hq_30
        clear hq_30 hx_30 hz_30
        obtain ⟨W31, hW31, hF31⟩ := HF29.out.four rfl (.bool false) (.int .i64 0) (.int .i64 0) (.bool false)
        have HF31 := Lib.hid hF31
        clear hF31
        obtain ⟨⟨cp0_32, cp1_32, cp2_32, cp3_32⟩, ⟨zp1_32, zp2_32, zp3_32⟩, hq_32, ⟨zr0_32, zr1_32, zr2_32, zr3_32⟩, hx_32, hz_32⟩ := HF31.out.cells
        obtain ⟨yr0_32, yr1_32, yr2_32, yr3_32⟩ := four_at hq_32
        clear hq_32 hx_32 hz_32
        go_wp2_with fail
        go_region
        go_wp2_with fail
        refine bodyPost_ret (v := .tuple #[.string ⟨#[]⟩, .bool false, .agg #[.bool false, .int .i64 0, .int .i64 0, .bool false]]) (by simp [results, Tryz.results39, go_sem, yr0_32, yr1_32, yr2_32, yr3_32]) rfl ?_
        exact .inr (.inl ⟨[], _, _, _, by rw [← HON.out]; exact tm_s HN.out HAQ.out HT1.out (.inr ⟨_, HS.out, HW.out⟩) HN2.out HA3.out (eolV_some HEV.out) HA4.out, rfl, Lib.hid (HF31.out.at_.quiet (But.drew (But.refl [] _)))⟩)
      | false =>
        obtain ⟨n5, a5, HN5, HA5, hq5, hq6⟩ := run_to (s := s) (a := a3) 12 hq4
        obtain ⟨l3, k3, HLK3⟩ := place_to s.data.toList f a3
        have HR5 := Lib.hid (HF25.out.run hs hq4 (k := 12) (by decide) HN5.out HA5.out)
        go_wp2_with fail
        refine HR5.out.mono ?_
        rintro e w6 ⟨rfl, HF6r⟩
        clear HR5
        clear cp0_26 cp1_26 cp2_26 cp3_26 zp1_26 zp2_26 zp3_26 zr0_26 zr1_26 zr2_26 zr3_26 yr0_26 yr1_26 yr2_26 yr3_26
        obtain ⟨⟨cp0_33, cp1_33, cp2_33, cp3_33⟩, ⟨zp1_33, zp2_33, zp3_33⟩, hq_33, ⟨zr0_33, zr1_33, zr2_33, zr3_33⟩, hx_33, hz_33⟩ := HF6r.out.cells
        obtain ⟨yr0_33, yr1_33, yr2_33, yr3_33⟩ := four_at hq_33
        clear hq_33 hx_33 hz_33
        have HFT := Lib.hid (HF6r.out.fault hs hf3 hq4 HLK3.out)
        go_wp2_with fail
        refine HFT.out.mono ?_
        rintro e w7 ⟨rfl, HF7r⟩
        clear HFT
        clear cp0_33 cp1_33 cp2_33 cp3_33 zp1_33 zp2_33 zp3_33 zr0_33 zr1_33 zr2_33 zr3_33 yr0_33 yr1_33 yr2_33 yr3_33
        obtain ⟨⟨cp0_34, cp1_34, cp2_34, cp3_34⟩, ⟨zp1_34, zp2_34, zp3_34⟩, hq_34, ⟨zr0_34, zr1_34, zr2_34, zr3_34⟩, hx_34, hz_34⟩ := HF7r.out.cells
        obtain ⟨yr0_34, yr1_34, yr2_34, yr3_34⟩ := four_at hq_34
        clear hq_34 hx_34 hz_34
        obtain ⟨W35, hW35, hF35⟩ := HF7r.out.four rfl (.bool true) (.int .i64 l3) (.int .i64 k3) (.bool false)
        have HF35 := Lib.hid hF35
        clear hF35
        obtain ⟨⟨cp0_36, cp1_36, cp2_36, cp3_36⟩, ⟨zp1_36, zp2_36, zp3_36⟩, hq_36, ⟨zr0_36, zr1_36, zr2_36, zr3_36⟩, hx_36, hz_36⟩ := HF35.out.cells
        obtain ⟨yr0_36, yr1_36, yr2_36, yr3_36⟩ := four_at hq_36
        clear hq_36 hx_36 hz_36
        go_wp2_with fail
        refine bodyPost_ret (v := .tuple #[.string ⟨#[]⟩, .bool false, .agg #[.bool true, .int .i64 l3, .int .i64 k3, .bool false]]) (by simp [results, Tryz.results39, go_sem, yr0_36, yr1_36, yr2_36, yr3_36]) rfl ?_
        exact .inr (.inr ⟨l3, k3, rfl, Lib.hid (FltAt.of (p := 5) HF35.out.at_ HLK3.out (tm_b2 HN.out HAQ.out HPP.out (.inr ⟨_, HS.out, HW.out⟩) HN2.out HA3.out (eolV_none HEV.out).1 HN5.out HA5.out))⟩)
    | false =>
      obtain ⟨n5, a5, HN5, HA5, hq5, hq6⟩ := run_to (s := s) (a := aq) 12 hq2
      have HR5 := Lib.hid (HF4n.out.run hs hq2 (k := 12) (by decide) HN5.out HA5.out)
      go_wp2_with fail
      refine HR5.out.mono ?_
      rintro e w6 ⟨rfl, HF6r⟩
      clear HR5
      clear cp0_23 cp1_23 cp2_23 cp3_23 zp1_23 zp2_23 zp3_23 zr0_23 zr1_23 zr2_23 zr3_23 yr0_23 yr1_23 yr2_23 yr3_23
      obtain ⟨⟨cp0_37, cp1_37, cp2_37, cp3_37⟩, ⟨zp1_37, zp2_37, zp3_37⟩, hq_37, ⟨zr0_37, zr1_37, zr2_37, zr3_37⟩, hx_37, hz_37⟩ := HF6r.out.cells
      obtain ⟨yr0_37, yr1_37, yr2_37, yr3_37⟩ := four_at hq_37
      clear hq_37 hx_37 hz_37
      have HFT := Lib.hid (HF6r.out.fault hs hf ha HLK.out)
      go_wp2_with fail
      refine HFT.out.mono ?_
      rintro e w7 ⟨rfl, HF7r⟩
      clear HFT
      clear cp0_37 cp1_37 cp2_37 cp3_37 zp1_37 zp2_37 zp3_37 zr0_37 zr1_37 zr2_37 zr3_37 yr0_37 yr1_37 yr2_37 yr3_37
      obtain ⟨⟨cp0_38, cp1_38, cp2_38, cp3_38⟩, ⟨zp1_38, zp2_38, zp3_38⟩, hq_38, ⟨zr0_38, zr1_38, zr2_38, zr3_38⟩, hx_38, hz_38⟩ := HF7r.out.cells
      obtain ⟨yr0_38, yr1_38, yr2_38, yr3_38⟩ := four_at hq_38
      clear hq_38 hx_38 hz_38
      obtain ⟨W39, hW39, hF39⟩ := HF7r.out.four rfl (.bool true) (.int .i64 l) (.int .i64 k) (.bool false)
      have HF39 := Lib.hid hF39
      clear hF39
      obtain ⟨⟨cp0_40, cp1_40, cp2_40, cp3_40⟩, ⟨zp1_40, zp2_40, zp3_40⟩, hq_40, ⟨zr0_40, zr1_40, zr2_40, zr3_40⟩, hx_40, hz_40⟩ := HF39.out.cells
      obtain ⟨yr0_40, yr1_40, yr2_40, yr3_40⟩ := four_at hq_40
      clear hq_40 hx_40 hz_40
      go_wp2_with fail
      refine bodyPost_ret (v := .tuple #[.string ⟨#[]⟩, .bool false, .agg #[.bool true, .int .i64 l, .int .i64 k, .bool false]]) (by simp [results, Tryz.results39, go_sem, yr0_40, yr1_40, yr2_40, yr3_40]) rfl ?_
      exact .inr (.inr ⟨l, k, rfl, Lib.hid (FltAt.of (p := 5) HF39.out.at_ HLK.out (tm_b1 HN.out HAQ.out HPP.out HS.out HW.out HN5.out HA5.out))⟩)
  · have hse := str_ne hon
    have HON := Lib.hid hon
    have hsb : t1.isEmpty = false := by simpa using hon
    have HPP : Hid (3 = if n = 0 then 5 else 3) := Lib.hid (by rw [if_neg ((take_run HN.out).2 (by rw [HT1.out]; exact hon))])
    clear hon
    by_cases hlt : aq < s.size
    rotate_left
    · have HD := Lib.hid (HF3r.out.done (b := true) (by simpa using hlt))
      have HNO : Hid (s.data.toList[aq]? = none) := Lib.hid (List.getElem?_eq_none (by simpa using hlt))
      go_wp2_with fail
      refine HD.out.mono ?_
      rintro e w4 ⟨rfl, HF4d⟩
      clear HD
      clear cp0_5 cp1_5 cp2_5 cp3_5 zp1_5 zp2_5 zp3_5 zr0_5 zr1_5 zr2_5 zr3_5 yr0_5 yr1_5 yr2_5 yr3_5
      obtain ⟨⟨cp0_41, cp1_41, cp2_41, cp3_41⟩, ⟨zp1_41, zp2_41, zp3_41⟩, hq_41, ⟨zr0_41, zr1_41, zr2_41, zr3_41⟩, hx_41, hz_41⟩ := HF4d.out.cells
      obtain ⟨yr0_41, yr1_41, yr2_41, yr3_41⟩ := four_at hq_41
      clear hq_41 hx_41 hz_41
      have HR0 := Lib.hid (HF4d.out.run hs hq2 (k := 0) (by decide) HN2.out HA3.out)
      go_wp2_with fail
      refine HR0.out.mono ?_
      rintro e w5 ⟨rfl, HF5r⟩
      clear HR0
      clear cp0_41 cp1_41 cp2_41 cp3_41 zp1_41 zp2_41 zp3_41 zr0_41 zr1_41 zr2_41 zr3_41 yr0_41 yr1_41 yr2_41 yr3_41
      obtain ⟨⟨cp0_42, cp1_42, cp2_42, cp3_42⟩, ⟨zp1_42, zp2_42, zp3_42⟩, hq_42, ⟨zr0_42, zr1_42, zr2_42, zr3_42⟩, hx_42, hz_42⟩ := HF5r.out.cells
      obtain ⟨yr0_42, yr1_42, yr2_42, yr3_42⟩ := four_at hq_42
      clear hq_42 hx_42 hz_42
      go_wp2_with fail
      go_quiet ((go_at_call 21; (with_reducible refine (HEO.out _).mono ?_); rintro e w2 ⟨rfl, rfl⟩; exact ⟨rfl, _, rfl⟩))
      have HF43 := Lib.hid (HF5r.out.drew nq)
      revert HF43
      generalize World.drewN _ nq = wq43
      intro HF43
      clear HEO
      clear cp0_42 cp1_42 cp2_42 cp3_42 zp1_42 zp2_42 zp3_42 zr0_42 zr1_42 zr2_42 zr3_42 yr0_42 yr1_42 yr2_42 yr3_42
      obtain ⟨⟨cp0_44, cp1_44, cp2_44, cp3_44⟩, ⟨zp1_44, zp2_44, zp3_44⟩, hq_44, ⟨zr0_44, zr1_44, zr2_44, zr3_44⟩, hx_44, hz_44⟩ := HF43.out.cells
      obtain ⟨yr0_44, yr1_44, yr2_44, yr3_44⟩ := four_at hq_44
      clear hq_44 hx_44 hz_44
      cases be with
      | true =>
        obtain ⟨a4, ha4⟩ : ∃ a4, a3 + N = a4 := ⟨_, rfl⟩
        have HA4 := Lib.hid ha4
        have hw4 : IntKind.i64.wrap ((a3 : Int) + (N : Int)) = (a4 : Int) := by rw [IntKind.wrap_i64]; omega
        clear ha4
        obtain ⟨W45, hW45, hF45⟩ := HF43.out.set a4
        have HF45 := Lib.hid hF45
        clear hF45
        obtain ⟨⟨cp0_46, cp1_46, cp2_46, cp3_46⟩, ⟨zp1_46, zp2_46, zp3_46⟩, hq_46, ⟨zr0_46, zr1_46, zr2_46, zr3_46⟩, hx_46, hz_46⟩ := HF45.out.cells
        obtain ⟨yr0_46, yr1_46, yr2_46, yr3_46⟩ := four_at hq_46
        clear hq_46 hx_46 hz_46
        obtain ⟨W47, hW47, hF47⟩ := HF45.out.setp 5 (.int .i64 5) rfl
        have HF47 := Lib.hid hF47
        clear hF47
        obtain ⟨⟨cp0_48, cp1_48, cp2_48, cp3_48⟩, ⟨zp1_48, zp2_48, zp3_48⟩, hq_48, ⟨zr0_48, zr1_48, zr2_48, zr3_48⟩, hx_48, hz_48⟩ := HF47.out.cells
        obtain ⟨yr0_48, yr1_48, yr2_48, yr3_48⟩ := four_at hq_48
        clear hq_48 hx_48 hz_48
        obtain ⟨W49, hW49, hF49⟩ := HF47.out.four rfl (.bool false) (.int .i64 0) (.int .i64 0) (.bool false)
        have HF49 := Lib.hid hF49
        clear hF49
        obtain ⟨⟨cp0_50, cp1_50, cp2_50, cp3_50⟩, ⟨zp1_50, zp2_50, zp3_50⟩, hq_50, ⟨zr0_50, zr1_50, zr2_50, zr3_50⟩, hx_50, hz_50⟩ := HF49.out.cells
        obtain ⟨yr0_50, yr1_50, yr2_50, yr3_50⟩ := four_at hq_50
        clear hq_50 hx_50 hz_50
        go_wp2_with fail
        go_region
        go_wp2_with fail
        refine bodyPost_ret (v := .tuple #[.string ⟨t1.toArray⟩, .bool true, .agg #[.bool false, .int .i64 0, .int .i64 0, .bool false]]) (by simp [results, Tryz.results39, go_sem, yr0_50, yr1_50, yr2_50, yr3_50]) rfl ?_
        exact .inr (.inl ⟨t1, _, _, _, tm_s HN.out HAQ.out HT1.out (.inl HNO.out) HN2.out HA3.out (eolV_some HEV.out) HA4.out, by rw [hsb]; rfl, Lib.hid (HF49.out.at_.quiet (But.drew (But.refl [] _)))⟩)
      | false =>
        obtain ⟨n5, a5, HN5, HA5, hq5, hq6⟩ := run_to (s := s) (a := a3) 12 hq4
        obtain ⟨l3, k3, HLK3⟩ := place_to s.data.toList f a3
        have HR5 := Lib.hid (HF43.out.run hs hq4 (k := 12) (by decide) HN5.out HA5.out)
        go_wp2_with fail
        refine HR5.out.mono ?_
        rintro e w6 ⟨rfl, HF6r⟩
        clear HR5
        clear cp0_44 cp1_44 cp2_44 cp3_44 zp1_44 zp2_44 zp3_44 zr0_44 zr1_44 zr2_44 zr3_44 yr0_44 yr1_44 yr2_44 yr3_44
        obtain ⟨⟨cp0_51, cp1_51, cp2_51, cp3_51⟩, ⟨zp1_51, zp2_51, zp3_51⟩, hq_51, ⟨zr0_51, zr1_51, zr2_51, zr3_51⟩, hx_51, hz_51⟩ := HF6r.out.cells
        obtain ⟨yr0_51, yr1_51, yr2_51, yr3_51⟩ := four_at hq_51
        clear hq_51 hx_51 hz_51
        have HFT := Lib.hid (HF6r.out.fault hs hf3 hq4 HLK3.out)
        go_wp2_with fail
        refine HFT.out.mono ?_
        rintro e w7 ⟨rfl, HF7r⟩
        clear HFT
        clear cp0_51 cp1_51 cp2_51 cp3_51 zp1_51 zp2_51 zp3_51 zr0_51 zr1_51 zr2_51 zr3_51 yr0_51 yr1_51 yr2_51 yr3_51
        obtain ⟨⟨cp0_52, cp1_52, cp2_52, cp3_52⟩, ⟨zp1_52, zp2_52, zp3_52⟩, hq_52, ⟨zr0_52, zr1_52, zr2_52, zr3_52⟩, hx_52, hz_52⟩ := HF7r.out.cells
        obtain ⟨yr0_52, yr1_52, yr2_52, yr3_52⟩ := four_at hq_52
        clear hq_52 hx_52 hz_52
        obtain ⟨W53, hW53, hF53⟩ := HF7r.out.four rfl (.bool true) (.int .i64 l3) (.int .i64 k3) (.bool false)
        have HF53 := Lib.hid hF53
        clear hF53
        obtain ⟨⟨cp0_54, cp1_54, cp2_54, cp3_54⟩, ⟨zp1_54, zp2_54, zp3_54⟩, hq_54, ⟨zr0_54, zr1_54, zr2_54, zr3_54⟩, hx_54, hz_54⟩ := HF53.out.cells
        obtain ⟨yr0_54, yr1_54, yr2_54, yr3_54⟩ := four_at hq_54
        clear hq_54 hx_54 hz_54
        go_wp2_with fail
        refine bodyPost_ret (v := .tuple #[.string ⟨#[]⟩, .bool false, .agg #[.bool true, .int .i64 l3, .int .i64 k3, .bool false]]) (by simp [results, Tryz.results39, go_sem, yr0_54, yr1_54, yr2_54, yr3_54]) rfl ?_
        exact .inr (.inr ⟨l3, k3, rfl, Lib.hid (FltAt.of (p := 3) HF53.out.at_ HLK3.out (tm_b2 HN.out HAQ.out HPP.out (.inl HNO.out) HN2.out HA3.out (eolV_none HEV.out).1 HN5.out HA5.out))⟩)
    have HD := Lib.hid (HF3r.out.done (b := false) (by simpa using hlt))
    have hsm := byteS hlt
    obtain ⟨c, hc⟩ : ∃ c, s[aq]'hlt = c := ⟨_, rfl⟩
    rw [hc] at hsm
    obtain ⟨bw, hbw⟩ : ∃ bw, dm.white c = bw := ⟨_, rfl⟩
    have HS := Lib.hid hsm
    have HW := Lib.hid hbw
    have hnx := (nx_white hsm).trans hbw
    have HNXB := Lib.hid hnx
    clear hsm hbw hnx hc
    go_wp2_with fail
    refine HD.out.mono ?_
    rintro e w4 ⟨rfl, HF4d⟩
    clear HD
    clear cp0_5 cp1_5 cp2_5 cp3_5 zp1_5 zp2_5 zp3_5 zr0_5 zr1_5 zr2_5 zr3_5 yr0_5 yr1_5 yr2_5 yr3_5
    have HNX := Lib.hid (HF4d.out.next (k := 1) (by decide) HNXB.out)
    obtain ⟨⟨cp0_55, cp1_55, cp2_55, cp3_55⟩, ⟨zp1_55, zp2_55, zp3_55⟩, hq_55, ⟨zr0_55, zr1_55, zr2_55, zr3_55⟩, hx_55, hz_55⟩ := HF4d.out.cells
    obtain ⟨yr0_55, yr1_55, yr2_55, yr3_55⟩ := four_at hq_55
    clear hq_55 hx_55 hz_55
    go_wp2_with fail
    refine HNX.out.mono ?_
    rintro e w4n ⟨rfl, HF4n⟩
    clear HNX
    clear cp0_55 cp1_55 cp2_55 cp3_55 zp1_55 zp2_55 zp3_55 zr0_55 zr1_55 zr2_55 zr3_55 yr0_55 yr1_55 yr2_55 yr3_55
    obtain ⟨⟨cp0_56, cp1_56, cp2_56, cp3_56⟩, ⟨zp1_56, zp2_56, zp3_56⟩, hq_56, ⟨zr0_56, zr1_56, zr2_56, zr3_56⟩, hx_56, hz_56⟩ := HF4n.out.cells
    obtain ⟨yr0_56, yr1_56, yr2_56, yr3_56⟩ := four_at hq_56
    clear hq_56 hx_56 hz_56
    cases bw with
    | true =>
      have HR0 := Lib.hid (HF4n.out.run hs hq2 (k := 0) (by decide) HN2.out HA3.out)
      go_wp2_with fail
      refine HR0.out.mono ?_
      rintro e w5 ⟨rfl, HF5r⟩
      clear HR0
      clear cp0_56 cp1_56 cp2_56 cp3_56 zp1_56 zp2_56 zp3_56 zr0_56 zr1_56 zr2_56 zr3_56 yr0_56 yr1_56 yr2_56 yr3_56
      obtain ⟨⟨cp0_57, cp1_57, cp2_57, cp3_57⟩, ⟨zp1_57, zp2_57, zp3_57⟩, hq_57, ⟨zr0_57, zr1_57, zr2_57, zr3_57⟩, hx_57, hz_57⟩ := HF5r.out.cells
      obtain ⟨yr0_57, yr1_57, yr2_57, yr3_57⟩ := four_at hq_57
      clear hq_57 hx_57 hz_57
      go_wp2_with fail
      go_quiet ((go_at_call 21; (with_reducible refine (HEO.out _).mono ?_); rintro e w2 ⟨rfl, rfl⟩; exact ⟨rfl, _, rfl⟩))
      have HF58 := Lib.hid (HF5r.out.drew nq)
      revert HF58
      generalize World.drewN _ nq = wq58
      intro HF58
      clear HEO
      clear cp0_57 cp1_57 cp2_57 cp3_57 zp1_57 zp2_57 zp3_57 zr0_57 zr1_57 zr2_57 zr3_57 yr0_57 yr1_57 yr2_57 yr3_57
      obtain ⟨⟨cp0_59, cp1_59, cp2_59, cp3_59⟩, ⟨zp1_59, zp2_59, zp3_59⟩, hq_59, ⟨zr0_59, zr1_59, zr2_59, zr3_59⟩, hx_59, hz_59⟩ := HF58.out.cells
      obtain ⟨yr0_59, yr1_59, yr2_59, yr3_59⟩ := four_at hq_59
      clear hq_59 hx_59 hz_59
      cases be with
      | true =>
        obtain ⟨a4, ha4⟩ : ∃ a4, a3 + N = a4 := ⟨_, rfl⟩
        have HA4 := Lib.hid ha4
        have hw4 : IntKind.i64.wrap ((a3 : Int) + (N : Int)) = (a4 : Int) := by rw [IntKind.wrap_i64]; omega
        clear ha4
        obtain ⟨W60, hW60, hF60⟩ := HF58.out.set a4
        have HF60 := Lib.hid hF60
        clear hF60
        obtain ⟨⟨cp0_61, cp1_61, cp2_61, cp3_61⟩, ⟨zp1_61, zp2_61, zp3_61⟩, hq_61, ⟨zr0_61, zr1_61, zr2_61, zr3_61⟩, hx_61, hz_61⟩ := HF60.out.cells
        obtain ⟨yr0_61, yr1_61, yr2_61, yr3_61⟩ := four_at hq_61
        clear hq_61 hx_61 hz_61
        obtain ⟨W62, hW62, hF62⟩ := HF60.out.setp 5 (.int .i64 5) rfl
        have HF62 := Lib.hid hF62
        clear hF62
        obtain ⟨⟨cp0_63, cp1_63, cp2_63, cp3_63⟩, ⟨zp1_63, zp2_63, zp3_63⟩, hq_63, ⟨zr0_63, zr1_63, zr2_63, zr3_63⟩, hx_63, hz_63⟩ := HF62.out.cells
        obtain ⟨yr0_63, yr1_63, yr2_63, yr3_63⟩ := four_at hq_63
        clear hq_63 hx_63 hz_63
        obtain ⟨W64, hW64, hF64⟩ := HF62.out.four rfl (.bool false) (.int .i64 0) (.int .i64 0) (.bool false)
        have HF64 := Lib.hid hF64
        clear hF64
        obtain ⟨⟨cp0_65, cp1_65, cp2_65, cp3_65⟩, ⟨zp1_65, zp2_65, zp3_65⟩, hq_65, ⟨zr0_65, zr1_65, zr2_65, zr3_65⟩, hx_65, hz_65⟩ := HF64.out.cells
        obtain ⟨yr0_65, yr1_65, yr2_65, yr3_65⟩ := four_at hq_65
        clear hq_65 hx_65 hz_65
        go_wp2_with fail
        go_region
        go_wp2_with fail
        refine bodyPost_ret (v := .tuple #[.string ⟨t1.toArray⟩, .bool true, .agg #[.bool false, .int .i64 0, .int .i64 0, .bool false]]) (by simp [results, Tryz.results39, go_sem, yr0_65, yr1_65, yr2_65, yr3_65]) rfl ?_
        exact .inr (.inl ⟨t1, _, _, _, tm_s HN.out HAQ.out HT1.out (.inr ⟨_, HS.out, HW.out⟩) HN2.out HA3.out (eolV_some HEV.out) HA4.out, by rw [hsb]; rfl, Lib.hid (HF64.out.at_.quiet (But.drew (But.refl [] _)))⟩)
      | false =>
        obtain ⟨n5, a5, HN5, HA5, hq5, hq6⟩ := run_to (s := s) (a := a3) 12 hq4
        obtain ⟨l3, k3, HLK3⟩ := place_to s.data.toList f a3
        have HR5 := Lib.hid (HF58.out.run hs hq4 (k := 12) (by decide) HN5.out HA5.out)
        go_wp2_with fail
        refine HR5.out.mono ?_
        rintro e w6 ⟨rfl, HF6r⟩
        clear HR5
        clear cp0_59 cp1_59 cp2_59 cp3_59 zp1_59 zp2_59 zp3_59 zr0_59 zr1_59 zr2_59 zr3_59 yr0_59 yr1_59 yr2_59 yr3_59
        obtain ⟨⟨cp0_66, cp1_66, cp2_66, cp3_66⟩, ⟨zp1_66, zp2_66, zp3_66⟩, hq_66, ⟨zr0_66, zr1_66, zr2_66, zr3_66⟩, hx_66, hz_66⟩ := HF6r.out.cells
        obtain ⟨yr0_66, yr1_66, yr2_66, yr3_66⟩ := four_at hq_66
        clear hq_66 hx_66 hz_66
        have HFT := Lib.hid (HF6r.out.fault hs hf3 hq4 HLK3.out)
        go_wp2_with fail
        refine HFT.out.mono ?_
        rintro e w7 ⟨rfl, HF7r⟩
        clear HFT
        clear cp0_66 cp1_66 cp2_66 cp3_66 zp1_66 zp2_66 zp3_66 zr0_66 zr1_66 zr2_66 zr3_66 yr0_66 yr1_66 yr2_66 yr3_66
        obtain ⟨⟨cp0_67, cp1_67, cp2_67, cp3_67⟩, ⟨zp1_67, zp2_67, zp3_67⟩, hq_67, ⟨zr0_67, zr1_67, zr2_67, zr3_67⟩, hx_67, hz_67⟩ := HF7r.out.cells
        obtain ⟨yr0_67, yr1_67, yr2_67, yr3_67⟩ := four_at hq_67
        clear hq_67 hx_67 hz_67
        obtain ⟨W68, hW68, hF68⟩ := HF7r.out.four rfl (.bool true) (.int .i64 l3) (.int .i64 k3) (.bool false)
        have HF68 := Lib.hid hF68
        clear hF68
        obtain ⟨⟨cp0_69, cp1_69, cp2_69, cp3_69⟩, ⟨zp1_69, zp2_69, zp3_69⟩, hq_69, ⟨zr0_69, zr1_69, zr2_69, zr3_69⟩, hx_69, hz_69⟩ := HF68.out.cells
        obtain ⟨yr0_69, yr1_69, yr2_69, yr3_69⟩ := four_at hq_69
        clear hq_69 hx_69 hz_69
        go_wp2_with fail
        refine bodyPost_ret (v := .tuple #[.string ⟨#[]⟩, .bool false, .agg #[.bool true, .int .i64 l3, .int .i64 k3, .bool false]]) (by simp [results, Tryz.results39, go_sem, yr0_69, yr1_69, yr2_69, yr3_69]) rfl ?_
        exact .inr (.inr ⟨l3, k3, rfl, Lib.hid (FltAt.of (p := 3) HF68.out.at_ HLK3.out (tm_b2 HN.out HAQ.out HPP.out (.inr ⟨_, HS.out, HW.out⟩) HN2.out HA3.out (eolV_none HEV.out).1 HN5.out HA5.out))⟩)
    | false =>
      obtain ⟨n5, a5, HN5, HA5, hq5, hq6⟩ := run_to (s := s) (a := aq) 12 hq2
      have HR5 := Lib.hid (HF4n.out.run hs hq2 (k := 12) (by decide) HN5.out HA5.out)
      go_wp2_with fail
      refine HR5.out.mono ?_
      rintro e w6 ⟨rfl, HF6r⟩
      clear HR5
      clear cp0_56 cp1_56 cp2_56 cp3_56 zp1_56 zp2_56 zp3_56 zr0_56 zr1_56 zr2_56 zr3_56 yr0_56 yr1_56 yr2_56 yr3_56
      obtain ⟨⟨cp0_70, cp1_70, cp2_70, cp3_70⟩, ⟨zp1_70, zp2_70, zp3_70⟩, hq_70, ⟨zr0_70, zr1_70, zr2_70, zr3_70⟩, hx_70, hz_70⟩ := HF6r.out.cells
      obtain ⟨yr0_70, yr1_70, yr2_70, yr3_70⟩ := four_at hq_70
      clear hq_70 hx_70 hz_70
      have HFT := Lib.hid (HF6r.out.fault hs hf ha HLK.out)
      go_wp2_with fail
      refine HFT.out.mono ?_
      rintro e w7 ⟨rfl, HF7r⟩
      clear HFT
      clear cp0_70 cp1_70 cp2_70 cp3_70 zp1_70 zp2_70 zp3_70 zr0_70 zr1_70 zr2_70 zr3_70 yr0_70 yr1_70 yr2_70 yr3_70
      obtain ⟨⟨cp0_71, cp1_71, cp2_71, cp3_71⟩, ⟨zp1_71, zp2_71, zp3_71⟩, hq_71, ⟨zr0_71, zr1_71, zr2_71, zr3_71⟩, hx_71, hz_71⟩ := HF7r.out.cells
      obtain ⟨yr0_71, yr1_71, yr2_71, yr3_71⟩ := four_at hq_71
      clear hq_71 hx_71 hz_71
      obtain ⟨W72, hW72, hF72⟩ := HF7r.out.four rfl (.bool true) (.int .i64 l) (.int .i64 k) (.bool false)
      have HF72 := Lib.hid hF72
      clear hF72
      obtain ⟨⟨cp0_73, cp1_73, cp2_73, cp3_73⟩, ⟨zp1_73, zp2_73, zp3_73⟩, hq_73, ⟨zr0_73, zr1_73, zr2_73, zr3_73⟩, hx_73, hz_73⟩ := HF72.out.cells
      obtain ⟨yr0_73, yr1_73, yr2_73, yr3_73⟩ := four_at hq_73
      clear hq_73 hx_73 hz_73
      go_wp2_with fail
      refine bodyPost_ret (v := .tuple #[.string ⟨#[]⟩, .bool false, .agg #[.bool true, .int .i64 l, .int .i64 k, .bool false]]) (by simp [results, Tryz.results39, go_sem, yr0_73, yr1_73, yr2_73, yr3_73]) rfl ?_
      exact .inr (.inr ⟨l, k, rfl, Lib.hid (FltAt.of (p := 3) HF72.out.at_ HLK.out (tm_b1 HN.out HAQ.out HPP.out HS.out HW.out HN5.out HA5.out))⟩)
end Go.Proofs.YtlcbcgillekphaaGreatDoor.sd
