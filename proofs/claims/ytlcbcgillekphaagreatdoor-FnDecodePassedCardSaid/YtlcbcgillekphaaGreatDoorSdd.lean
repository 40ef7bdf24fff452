/-
  Proved: the contract of the reference's Next.
  Conditions: a text of at most 4000 bytes; what is due is an entry's start or a line is bad.
-/
import Derived.Test.YtlcbcgillekphaaGreatDoorSdc
import Derived.Test.YtlcbcgillekphaaGreatDoorGe
import Derived.Deep.CutBlock
namespace Go.Proofs.YtlcbcgillekphaaGreatDoor.sd
open Go.RowKit Mem rw ent
set_option linter.unusedVariables false
set_option linter.unusedSimpArgs false

theorem passed_le : ∀ (n : Nat) (l : List UInt8), dm.passed n l ≤ l.length
  | 0, l => by simp [dm.passed]
  | n + 1, l => by
    unfold dm.passed
    simp only
    have hr := dm.runN_le (dm.inS 0) l
    have hl : (l.drop (dm.runN (dm.inS 0) l)).length = l.length - dm.runN (dm.inS 0) l := by rw [List.length_drop]
    generalize l.drop (dm.runN (dm.inS 0) l) = l1 at hl
    cases l1 with
    | nil => exact hr
    | cons c t =>
      simp only
      split
      · cases he : dm.eol ((c :: t).drop (dm.runN (dm.inS 11) (c :: t))) with
        | none => simp
        | some e =>
          simp only
          have h1 := eol_le he
          have h2 := passed_le n ((c :: t).drop (dm.runN (dm.inS 11) (c :: t) + e))
          rw [List.length_drop] at h1 h2
          have h3 := dm.runN_le (dm.inS 11) (c :: t)
          omega
      · cases he : dm.eol (c :: t) with
        | none => exact hr
        | some e =>
          simp only
          have h1 := eol_le he
          have h2 := passed_le n ((c :: t).drop e)
          rw [List.length_drop] at h2
          omega
theorem pz_le (l : List UInt8) : pz l ≤ l.length := passed_le _ _
theorem passedQ (s : ByteArray) (hs : s.size ≤ 4000) (a N : Nat) (h : pz (s.data.toList.drop a) = N) (w : World) :
    Calls Tryz.prog 9 #[.string (s.extract a s.size)] w fun e w' => e = .returned (.int .i64 (N : Nat)) ∧ w = w' := by
  have := passed9 (s.extract a s.size) (by rw [ByteArray.size_extract]; omega) w
  rw [drop_ext', h] at this
  exact this
theorem SD.from_ {w : World} {P : Nat} {s : ByteArray} {a p f : Nat} (h : SD w P s a p f) (f' : Nat) : SD (w.setCell ⟨P, 3, none⟩ (.int .i64 f')) P s a p f' := Rw.set h 3 (.int .i64 f')
theorem At.setf {w0 w : World} {P : Nat} {s : ByteArray} {a p f : Nat} (h : At w0 P s a p f w) (f' : Nat) : At w0 P s a p f' (w.setCell ⟨P, 3, none⟩ (.int .i64 f')) :=
  ⟨h.sd.from_ f', h.but.setCell (Or.inl (by simp)) _⟩
theorem At.setpE {w0 w : World} {P : Nat} {s : ByteArray} {a p f : Nat} (h : At w0 P s a p f w) (p' : Nat) (v : Value) (hv : v = .int .i64 (p' : Int)) : ∃ W, w.setCell ⟨P, 2, none⟩ v = W ∧ At w0 P s a p' f W := by subst hv; exact ⟨_, rfl, h.setp p'⟩
theorem At.setfE {w0 w : World} {P : Nat} {s : ByteArray} {a p f : Nat} (h : At w0 P s a p f w) (f' : Nat) : ∃ W, w.setCell ⟨P, 3, none⟩ (.int .i64 f') = W ∧ At w0 P s a p f' W := ⟨_, rfl, h.setf f'⟩
theorem At.setE {w0 w : World} {P : Nat} {s : ByteArray} {a p f : Nat} (h : At w0 P s a p f w) (a' : Nat) : ∃ W, w.setCell ⟨P, 1, none⟩ (.int .i64 a') = W ∧ At w0 P s a' p f W := ⟨_, rfl, h.set a'⟩
/-- From the place where the line ends: the rest of Next. -/
def NxOut (P : Nat) (s : ByteArray) (m : dm.M) (w : World) (e : Ending) (w' : World) : Prop :=
  ∃ b : Nat, dm.nextM s.data.toList m = ⟨b, 0, b⟩ ∧ b ≤ s.size ∧ e = .returned (.bool (decide (b < s.size))) ∧ Hid (At w P s b 0 b w')
set_option maxRecDepth 100000 in
set_option maxHeartbeats 4000000 in
theorem next18_5 (P : Nat) (s : ByteArray) (hs : s.size ≤ 4000) (a f : Nat) (w : World) (h : SD w P s a 5 f) (ha : a ≤ s.size) :
    Calls Tryz.prog 18 #[.pointer (some ⟨P, 0, none⟩)] w (NxOut P s ⟨a, 5, f⟩ w) := by
  have hll : s.data.toList.length = s.size := by simp
  obtain ⟨N, hN⟩ : ∃ N, pz (s.data.toList.drop a) = N := ⟨_, rfl⟩
  have hle : a + N ≤ s.size := by have := pz_le (s.data.toList.drop a); rw [List.length_drop] at this; omega
  obtain ⟨b, hb⟩ : ∃ b, a + N = b := ⟨_, rfl⟩
  have HNM : Hid (dm.nextM s.data.toList ⟨a, 5, f⟩ = ⟨b, 0, b⟩) := Lib.hid (by
    unfold dm.nextM
    simp only [if_true]
    rw [passed_pz _ _ (by rw [List.length_drop]; omega), hN, hb])
  have HPQ := Lib.hid (passedQ s hs a N hN)
  have H0 := Lib.hid (At.refl h)
  obtain ⟨c0, c1, c2, c3⟩ := h.cells
  have z1 := h.fz 1
  have hai : (a : Int) ≤ (s.size : Int) := by omega
  have hw : IntKind.i64.wrap ((a : Int) + (N : Int)) = (b : Int) := by rw [IntKind.wrap_i64]; omega
  have hbs : b ≤ s.size := by omega
  have k0 : (w.setCell ⟨P, 1, none⟩ (.int .i64 b)).drew.cell? ⟨P, 0, none⟩ = some (.string s) := (H0.out.set b).sd.cells.1
  have K0 := Lib.hid k0
  clear h hll hN hle hb k0
  go_enter Tryz.func18, Tryz.ntmps18
  go_wp2_with fail
  go_cut [] from 3 to 47 (fun wx => Hid (At w P s b 5 f wx))
  case first =>
    go_region_with ((go_at_call 9; (with_reducible refine (HPQ.out _).mono ?_); rintro e w2 ⟨rfl, rfl⟩))
    all_goals go_wp2_with fail
    all_goals go_meet
    all_goals first | exact Lib.hid ((H0.out.quiet ((But.refl [] w).drewN (n := 1))).set b) | exact Lib.hid ((H0.out.set b).quiet ((But.refl [] _).drewN (n := 1)))
  case rest =>
    have HC := hcut
    obtain ⟨d0, d1, d2, d3⟩ := HC.out.sd.cells
    have y2 := HC.out.sd.fz 2
    have y3 := HC.out.sd.fz 3
    obtain ⟨W1, hW1, hA1⟩ := HC.out.setpE 0 (.int .i64 0) rfl
    obtain ⟨e0, e1, e2, e3⟩ := hA1.sd.cells
    have x3 := hA1.sd.fz 3
    obtain ⟨W2, hW2, hA2⟩ := hA1.setfE b
    have HA2 := Lib.hid hA2
    clear hA1 hA2
    have HD := Lib.hid (done35 P s b 0 b W2 HA2.out.sd)
    have HDB : Hid (decide (s.size ≤ b) = !decide (b < s.size)) := Lib.hid (by by_cases hh : b < s.size <;> simp [hh] <;> omega)
    go_wp2_with fail
    refine HD.out.mono ?_
    rintro e w3 ⟨rfl, n, rfl⟩
    go_wp2_with fail
    go_ret
    refine ⟨b, HNM.out, hbs, ?_, Lib.hid (HA2.out.quiet ((But.refl [] _).drewN))⟩
    rw [HDB.out]; simp
set_option maxRecDepth 100000 in
set_option maxHeartbeats 4000000 in
theorem next18_4 (P : Nat) (s : ByteArray) (hs : s.size ≤ 4000) (a f : Nat) (w : World) (h : SD w P s a 4 f) (ha : a ≤ s.size) :
    Calls Tryz.prog 18 #[.pointer (some ⟨P, 0, none⟩)] w (NxOut P s ⟨a, 4, f⟩ w) := by
  have hll : s.data.toList.length = s.size := by simp
  obtain ⟨n, a1, HN, HA1, hq1, hq2⟩ := run_to (s := s) (a := a) 13 ha
  obtain ⟨y, hy⟩ : ∃ y, a1 + 1 = y := ⟨_, rfl⟩
  obtain ⟨a2, ha2⟩ : ∃ a2, min y s.size = a2 := ⟨_, rfl⟩
  have ha2s : a2 ≤ s.size := by omega
  obtain ⟨N, hN⟩ : ∃ N, pz (s.data.toList.drop a2) = N := ⟨_, rfl⟩
  have hle : a2 + N ≤ s.size := by have := pz_le (s.data.toList.drop a2); rw [List.length_drop] at this; omega
  obtain ⟨b, hb⟩ : ∃ b, a2 + N = b := ⟨_, rfl⟩
  have HNM : Hid (dm.nextM s.data.toList ⟨a, 4, f⟩ = ⟨b, 0, b⟩) := Lib.hid (by
    have e1 : min (a + dm.runN (dm.inS 13) (s.data.toList.drop a) + 1) s.data.toList.length = a2 := by rw [← HN.out, HA1.out, hy, hll, ha2]
    unfold dm.nextM
    simp only [show ¬ ((4 : Nat) = 5) by decide, if_false]
    rw [e1, passed_pz _ _ (by rw [List.length_drop]; omega), hN, hb])
  have HPQ := Lib.hid (passedQ s hs a2 N hN)
  have H0 := Lib.hid (At.refl h)
  have HSK := Lib.hid (skip33 P s a 4 f w h 5 (by decide) (by decide) (by decide) (by decide))
  obtain ⟨c0, c1, c2, c3⟩ := h.cells
  have hw : IntKind.i64.wrap ((a2 : Int) + (N : Int)) = (b : Int) := by rw [IntKind.wrap_i64]; omega
  have hwy : IntKind.i64.wrap ((a1 : Int) + 1) = (y : Int) := by rw [IntKind.wrap_i64]; omega
  have hbs : b ≤ s.size := by omega
  have hai : (a2 : Int) ≤ (s.size : Int) := by omega
  have hmin : min (y : Int) (s.size : Int) = (a2 : Int) := by omega
  have hmc : ((s.size : Int) < (y : Int) ∧ a2 = s.size) ∨ (¬ (s.size : Int) < (y : Int) ∧ a2 = y) := by omega
  have HMC := Lib.hid hmc
  clear h hll hN hle hb hy ha2 hmc
  go_enter Tryz.func18, Tryz.ntmps18
  go_wp2_with fail
  refine HSK.out.mono ?_
  rintro e w1 ⟨rfl, hb1⟩
  have HC1 := Lib.hid (H0.out.quiet hb1)
  clear HSK hb1 c0 c1 c2 c3
  obtain ⟨c0, c1, c2, c3⟩ := HC1.out.sd.cells
  have HRU := Lib.hid (run34 P s hs a 4 f ha w1 HC1.out.sd 13 (by decide) n HN.out)
  rw [HA1.out] at HRU
  go_wp2_with fail
  refine HRU.out.mono ?_
  rintro e w2 ⟨rfl, hA2⟩
  have HC2 := Lib.hid (HC1.out.trans hA2.out)
  clear hA2 HRU c0 c1 c2 c3
  obtain ⟨c0, c1, c2, c3⟩ := HC2.out.sd.cells
  have z1 := HC2.out.sd.fz 1
  obtain ⟨W3, hW3, hA3⟩ := HC2.out.setE a2
  have HC3 := Lib.hid hA3
  obtain ⟨x0, x1, x2, x3⟩ := hA3.sd.cells
  have xz1 := hA3.sd.fz 1
  clear hA3
  go_wp2_with fail
  go_region
  go_wp2_with fail
  have HB := Lib.hid (HC3.out.quiet ((But.refl [] W3).drewN (n := 1)))
  go_cut [] from 3 to 47 (fun wx => Hid (At w P s b 4 f wx))
  case first =>
    go_region_with ((go_at_call 9; (with_reducible refine (HPQ.out _).mono ?_); rintro e w2 ⟨rfl, rfl⟩))
    all_goals go_wp2_with fail
    all_goals go_meet
    all_goals first | exact Lib.hid ((HB.out.quiet ((But.refl [] _).drewN (n := 1))).set b) | exact Lib.hid ((HB.out.set b).quiet ((But.refl [] _).drewN (n := 1)))
  case rest =>
    have HC := hcut
    obtain ⟨d0, d1, d2, d3⟩ := HC.out.sd.cells
    have y2 := HC.out.sd.fz 2
    have y3 := HC.out.sd.fz 3
    obtain ⟨W1, hW1, hA1⟩ := HC.out.setpE 0 (.int .i64 0) rfl
    obtain ⟨e0, e1, e2, e3⟩ := hA1.sd.cells
    have x3 := hA1.sd.fz 3
    obtain ⟨W2, hW2, hA2⟩ := hA1.setfE b
    have HA2 := Lib.hid hA2
    clear hA1 hA2
    have HD := Lib.hid (done35 P s b 0 b W2 HA2.out.sd)
    have HDB : Hid (decide (s.size ≤ b) = !decide (b < s.size)) := Lib.hid (by by_cases hh : b < s.size <;> simp [hh] <;> omega)
    go_wp2_with fail
    refine HD.out.mono ?_
    rintro e w3 ⟨rfl, n, rfl⟩
    go_wp2_with fail
    go_ret
    refine ⟨b, HNM.out, hbs, ?_, Lib.hid (HA2.out.quiet ((But.refl [] _).drewN))⟩
    rw [HDB.out]; simp
end Go.Proofs.YtlcbcgillekphaaGreatDoor.sd
