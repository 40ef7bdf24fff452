/-
  Proved: the contracts of the decoder's advanceTagComma and Measurement.
  Conditions: a decoder in memory.
-/
import Derived.Test.YtlcbcgillekphaaGreatDoorGl
import Derived.Handy
namespace Go.Proofs.YtlcbcgillekphaaGreatDoor.dec
open Go.RowKit Mem rw
set_option linter.unusedVariables false
set_option linter.unusedSimpArgs false

section
variable {b : Bool} {G : Cfg} {L0 : Lay} {w0 : World} {H : List (Option Addr × List UInt8)} {x s y n : Nat} {w : World}
theorem getD_some {T : List UInt8} {x : Nat} (h : x < T.length) : T[x]? = some (T.getD x 0) := by
  rw [List.getD_eq_getElem?_getD, List.getElem?_eq_getElem h]; rfl
def CommaOut (G : Cfg) (L0 : Lay) (w0 : World) (H : List (Option Addr × List UInt8)) (x s y : Nat) (e : Ending) (w' : World) : Prop :=
  ∃ v, e = .returned v ∧ Hid ((∃ x', dm.behindM G.T ⟨x, s, y⟩ = (none, ⟨x', s, y⟩) ∧ v = .nilIface ∧ Ch false G L0 w0 H x' s y 0 w') ∨ (∃ p x', dm.behindM G.T ⟨x, s, y⟩ = (some p, ⟨x', s, y⟩) ∧ Flt false G L0 w0 p x' s y w' v))
set_option maxHeartbeats 1000000 in
theorem Ch.comma (hG : Base G) (c : Ch false G L0 w0 H x s y n w) :
    Calls Tryz.prog 56 #[.pointer (some ⟨G.D, 0, none⟩)] w (CommaOut G L0 w0 H x s y) := by
  have HG := Lib.hid hG
  have HE := Lib.hid (c.ens hG)
  clear hG c
  go_enter Tryz.func56, Tryz.ntmps56
  go_wp2_with fail
  refine HE.out.mono ?_
  rintro e w1 ⟨he, h1⟩
  have C1 := Lib.hid h1.out
  clear h1 HE
  by_cases hlt : x < G.T.length
  · rw [show decide (x < G.T.length) = true by simpa using hlt] at he
    subst he
    have HA := Lib.hid (C1.out.at0 HG.out)
    obtain ⟨d, hd⟩ : ∃ d, G.T.getD x 0 = d := ⟨_, rfl⟩
    have hsm := getD_some hlt
    rw [hd] at HA hsm
    have HS := Lib.hid hsm
    have HL := Lib.hid hlt
    have HD := Lib.hid hd
    have hdb := d.toNat_lt
    clear hlt hd hsm
    go_wp2_with fail
    refine HA.out.mono ?_
    rintro e w2 ⟨rfl, q, rfl⟩
    clear HA
    by_cases h44 : d = 44
    · have hz : (d.toNat : Int) = 44 := by rw [h44]; rfl
      have HV := Lib.hid ((C1.out.drewN q).adv HG.out HL.out (by rw [HD.out, h44]; decide))
      have H44 := Lib.hid h44
      clear h44
      go_wp2_with fail
      refine HV.out.mono ?_
      rintro e w3 ⟨rfl, h3⟩
      have HE3 := Lib.hid (h3.out.ens HG.out)
      clear HV h3
      go_wp2_with fail
      refine HE3.out.mono ?_
      rintro e w4 ⟨he, h4⟩
      have C4 := Lib.hid h4.out
      clear h4 HE3
      by_cases hlt2 : x + 1 < G.T.length
      · rw [show decide (x + 1 < G.T.length) = true by simpa using hlt2] at he
        subst he
        obtain ⟨d2, hd2⟩ : ∃ d2, G.T.getD (x + 1) 0 = d2 := ⟨_, rfl⟩
        have hsm2 := getD_some hlt2
        rw [hd2] at hsm2
        have HS2 := Lib.hid hsm2
        have HD2 := Lib.hid hd2
        have hdb2 := d2.toNat_lt
        clear hlt2 hd2 hsm2
        go_wp2_with fail
        refine (set.mk_whitespace _).mono ?_
        rintro e w5 ⟨R, rfl, hR⟩
        have C5 := Lib.hid (C4.out.made hR)
        have HA := Lib.hid (C5.out.at0 HG.out)
        rw [HD2.out] at HA
        have HGT : Hid (∀ q, Calls Tryz.prog 58 #[.pointer (some ⟨R, 0, none⟩), .int .u8 d2.toNat] (w5.drewN q) fun e w' => e = .returned (.bool (dm.white d2)) ∧ w5.drewN q = w') := Lib.hid fun q => by
          have := set.get33 R (set.inN 1) d2 (w5.drewN q) hR.2.1
          rw [set.inN_byte] at this
          exact this
        clear hR
        go_wp2_with fail
        refine HA.out.mono ?_
        rintro e w6 ⟨rfl, q6, rfl⟩
        clear HA
        have C6 := Lib.hid (C5.out.drewN q6)
        go_wp2_with fail
        refine (HGT.out _).mono ?_
        rintro e w7 ⟨rfl, rfl⟩
        clear HGT
        obtain ⟨bw, hbw⟩ : ∃ bw, dm.white d2 = bw := ⟨_, rfl⟩
        rw [hbw]
        have HBW := Lib.hid hbw
        clear hbw
        cases bw with
        | true =>
          obtain ⟨r0, r1, k2, k3, k4, k5, k6, kz⟩ := C6.out.cells HG.out
          obtain ⟨st, hst⟩ : ∃ st : Nat, (x + 1) - y = st := ⟨_, rfl⟩
          rw [hst] at k4
          have HST := Lib.hid hst
          have HSY := Lib.hid (fun (Y : Nat) (ms : ByteArray) (w2 : World) (hb : But [] _ w2) (hY : _ ≤ Y) (hr : Rw w2 Y [.string ms] 121) => C6.out.syn HG.out (x + 1) (by have := C6.out.from_le; omega) (Nat.le_refl _) hb Y ms hY hr (st : Int) (by rw [HST.out]))
          clear k5 k6 kz hst
          go_wp2_with fail
          go_region_held3 (fun wx => wx.cell? ⟨G.D, 3, none⟩ = some (.int .i64 r1) ∧ wx.cell? ⟨G.D, 2, none⟩ = some (.int .i64 r0)) (first | exact ⟨k3, k2⟩ | exact ⟨d3, d2⟩) (first | (go_at_call 55; (with_reducible refine (new37r _ _).mono ?_); rintro e we ⟨rfl, hbe, hre⟩; have d3 := hbe.cellAt (p := ⟨G.D, 3, none⟩) k3 (by simp); have d2 := hbe.cellAt (p := ⟨G.D, 2, none⟩) k2 (by simp); have HBE := Lib.hid hbe; have HRE := Lib.hid hre; clear hbe hre) | (go_at_call 54; (refine (HSY.out _ _ _ (((But.refl [] _).drew).trans HBE.out) (by exact Nat.le_refl _) HRE.out).mono ?_); rintro e wf ⟨v, rfl, hv, e2, e3⟩; have d3 := e3.trans d3; have d2 := e2.trans d2; clear e2 e3))
          go_wp2_with fail
          go_ret
          exact ⟨v, rfl, Lib.hid (.inr ⟨x + 1, x + 1, by simp [dm.behindM, HS.out, H44.out, HS2.out, HBW.out], hv.out⟩)⟩
        | false =>
          go_wp2_with fail
          go_ret
          exact ⟨_, rfl, Lib.hid (.inl ⟨x + 1, by simp [dm.behindM, HS.out, H44.out, HS2.out, HBW.out], rfl, C6.out.zer⟩)⟩
      · rw [show decide (x + 1 < G.T.length) = false by simpa using hlt2] at he
        subst he
        have HNO : Hid (G.T[x + 1]? = none) := Lib.hid (List.getElem?_eq_none (by omega))
        clear hlt2
        obtain ⟨r0, r1, k2, k3, k4, k5, k6, kz⟩ := C4.out.cells HG.out
        obtain ⟨st, hst⟩ : ∃ st : Nat, (x + 1) - y = st := ⟨_, rfl⟩
        rw [hst] at k4
        have HST := Lib.hid hst
        have HSY := Lib.hid (fun (Y : Nat) (ms : ByteArray) (w2 : World) (hb : But [] _ w2) (hY : _ ≤ Y) (hr : Rw w2 Y [.string ms] 121) => C4.out.syn HG.out (x + 1) (by have := C4.out.from_le; omega) (Nat.le_refl _) hb Y ms hY hr (st : Int) (by rw [HST.out]))
        clear k5 k6 kz hst
        go_wp2_with fail
        go_region_held3 (fun wx => wx.cell? ⟨G.D, 3, none⟩ = some (.int .i64 r1) ∧ wx.cell? ⟨G.D, 2, none⟩ = some (.int .i64 r0)) (first | exact ⟨k3, k2⟩ | exact ⟨d3, d2⟩) (first | (go_at_call 55; (with_reducible refine (new37r _ _).mono ?_); rintro e we ⟨rfl, hbe, hre⟩; have d3 := hbe.cellAt (p := ⟨G.D, 3, none⟩) k3 (by simp); have d2 := hbe.cellAt (p := ⟨G.D, 2, none⟩) k2 (by simp); have HBE := Lib.hid hbe; have HRE := Lib.hid hre; clear hbe hre) | (go_at_call 54; (refine (HSY.out _ _ _ (((But.refl [] _).drew).trans HBE.out) (by exact Nat.le_refl _) HRE.out).mono ?_); rintro e wf ⟨v, rfl, hv, e2, e3⟩; have d3 := e3.trans d3; have d2 := e2.trans d2; clear e2 e3))
        go_wp2_with fail
        go_ret
        exact ⟨v, rfl, Lib.hid (.inr ⟨x + 1, x + 1, by simp [dm.behindM, HS.out, H44.out, HNO.out], hv.out⟩)⟩
    · have hz : ¬ (d.toNat : Int) = 44 := fun e => h44 (UInt8.toNat_inj.1 (by show d.toNat = 44; omega))
      have HF : Hid (dm.behindM G.T ⟨x, s, y⟩ = (none, ⟨x, s, y⟩)) := Lib.hid (by simp [dm.behindM, HS.out, h44])
      clear h44
      go_wp2_with fail
      go_ret
      exact ⟨_, rfl, Lib.hid (.inl ⟨x, HF.out, rfl, (C1.out.drewN q).zer⟩)⟩
  · rw [show decide (x < G.T.length) = false by simpa using hlt] at he
    subst he
    have HF : Hid (dm.behindM G.T ⟨x, s, y⟩ = (none, ⟨x, s, y⟩)) := Lib.hid (by simp [dm.behindM, List.getElem?_eq_none (Nat.le_of_not_lt hlt)])
    clear hlt
    go_wp2_with fail
    go_ret
    exact ⟨_, rfl, Lib.hid (.inl ⟨x, HF.out, rfl, C1.out.zer⟩)⟩
theorem Held.byte {G : Cfg} {L : Lay} {w : World} {a : Option Addr} {l : List UInt8} (h : Held G L w a l) (hl : 0 < l.length) : ∃ A off, a = some ⟨A, off, none⟩ ∧ w.cell? ⟨A, off, none⟩ = some (.int .u8 ((l[0]'hl).toNat : Int)) := by
  obtain ⟨A, off, h1, h2⟩ := h.bytes.get hl
  exact ⟨A, off, h1, h2⟩
theorem Ch.byte {a : Option Addr} {l : List UInt8} (c : Ch b G L0 w0 ((a, l) :: H) x s y n w) (hl : 0 < l.length) : ∃ A off, a = some ⟨A, off, none⟩ ∧ w.cell? ⟨A, off, none⟩ = some (.int .u8 ((l[0]'hl).toNat : Int)) := by
  obtain ⟨L, c⟩ := c
  exact (c.held (a, l) (by simp)).byte hl
/-- A call's fault: its line and column. -/
def Bad (G : Cfg) (L0 : Lay) (w0 : World) {α : Type} (r : dm.Res α × dm.M) (w' : World) (v : Value) : Prop :=
  ∃ l k x s y, r = (.fault l k, ⟨x, s, y⟩) ∧ ∃ L', ChL false G L0 w0 [] x s y 0 w' L' ∧ ErrAt G L' w' v l k
theorem Flt.bad {α : Type} {r : dm.Res α × dm.M} {p : Nat} {v : Value} (h : Flt false G L0 w0 p x s y w v) (hr : r = dm.flt G.T ⟨x, s, y⟩ p) : Bad G L0 w0 r w v :=
  ⟨_, _, x, _, y, hr, h⟩
def MeasOut (G : Cfg) (L0 : Lay) (w0 : World) (r : dm.Res (List UInt8) × dm.M) (e : Ending) (w' : World) : Prop :=
  ∃ (a : Option Addr) (n c : Nat) (v : Value), e = .returned (.tuple #[.slice a n c, v]) ∧ Hid ((∃ o x s y, r = (.some o, ⟨x, s, y⟩) ∧ n = o.length ∧ v = .nilIface ∧ Ch false G L0 w0 [(a, o)] x s y 0 w') ∨ Bad G L0 w0 r w' v)
set_option maxHeartbeats 2000000 in
theorem Ch.meas (hG : Base G) (y0 : Nat) (c : Ch false G L0 w0 H x 0 y0 n w) :
    Calls Tryz.prog 28 #[.pointer (some ⟨G.D, 0, none⟩)] w (MeasOut G L0 w0 (dm.nameM G.T ⟨x, 0, x⟩)) := by
  have HG := Lib.hid hG
  have HAE := Lib.hid (c.adv_eq hG)
  have HRS := Lib.hid (c.reset hG)
  clear hG c
  obtain ⟨y, hy⟩ : ∃ y, x = y := ⟨_, rfl⟩
  have HY := Lib.hid hy
  have HN : Hid (dm.nameM G.T ⟨x, 0, x⟩ = dm.nameM G.T ⟨x, 0, y⟩) := Lib.hid (by rw [← hy])
  rw [show Ch false G L0 w0 [] x 0 x = Ch false G L0 w0 [] x 0 y by rw [← hy]] at HRS
  clear hy
  go_enter Tryz.func28, Tryz.ntmps28
  go_wp2_with fail
  refine HAE.out.mono ?_
  rintro e w1 ⟨rfl, rfl⟩
  clear HAE
  go_wp2_with fail
  refine HRS.out.mono ?_
  rintro e w2 ⟨rfl, h2⟩
  have C2 := Lib.hid h2.out
  clear h2 HRS
  obtain ⟨o, q, htok⟩ : ∃ o' q', dm.tok 0 (G.T.drop x) = (o', q') := ⟨_, _, rfl⟩
  have HTOK := Lib.hid htok
  clear htok
  go_wp2_with fail
  refine (set.mk_measurementChars _).mono ?_
  rintro e wa ⟨R, rfl, hR⟩
  have HR := Lib.hid hR
  clear hR
  go_wp2_with fail
  refine (esc.esc_at0 _).mono ?_
  rintro e wb ⟨rfl, he, hbe⟩
  have ht := C2.out.esc HG.out 0 (by decide) HR.out he (Nat.le_refl _) (But.ofBelow hbe)
  rw [HTOK.out] at ht
  dsimp only at ht
  obtain ⟨st0, hst⟩ : ∃ st : Nat, x - y = st := ⟨_, rfl⟩
  rw [hst] at ht
  have Hst0 := Lib.hid hst
  have HT := Lib.hid ht
  clear ht he hbe HR hst
  go_wp2_with fail
  refine HT.out.mono ?_
  rintro e wc ⟨a, j, cp, v, rfl, hh⟩
  clear HT
  have HJ := Lib.hid hh.out.1
  rcases hh.out.2 with ⟨hv, rfl, hc⟩ | ⟨hv, hf⟩
  rotate_left
  · have HVF := Lib.hid hv
    have HFL := Lib.hid hf
    obtain ⟨L', hcl, X', Y', ms', rfl, hrest⟩ := hf
    clear hcl hrest hv hh
    go_wp2_with fail
    go_ret2
    exact ⟨_, _, _, _, rfl, Lib.hid (.inr (HFL.out.bad (by rw [HN.out]; simp [dm.nameM, HTOK.out, HVF.out])))⟩
  have HVV := Lib.hid hv
  have C3 := Lib.hid hc
  clear hv hc hh
  by_cases hj0 : j = 0
  · have hjz : (j : Int) = 0 := by omega
    have HON : Hid (o = []) := Lib.hid (List.eq_nil_of_length_eq_zero (by rw [← HJ.out]; exact hj0))
    have HE := Lib.hid (C3.out.ens HG.out)
    clear hj0
    go_wp2_with fail
    refine HE.out.mono ?_
    rintro e w4 ⟨he, h4⟩
    have C4 := Lib.hid h4.out
    clear h4 HE
    obtain ⟨bq, hbq⟩ : ∃ bq, decide (x + q < G.T.length) = bq := ⟨_, rfl⟩
    rw [hbq] at he
    subst he
    clear hbq
    cases bq with
    | true =>
      go_wp2_with fail
      refine (new37r _ _).mono ?_
      rintro e we ⟨rfl, hbe, hre⟩
      have HSY := Lib.hid (C4.out.syn HG.out x (by have := HY.out; omega) (Nat.le_add_right _ _) hbe _ _ (Nat.le_refl _) hre _ (by rw [Hst0.out]))
      clear hbe hre
      go_wp2_with fail
      refine HSY.out.mono ?_
      rintro e wf ⟨v, rfl, hv⟩
      go_wp2_with fail
      go_ret2
      exact ⟨_, _, _, _, rfl, Lib.hid (.inr (hv.1.out.bad (by rw [HN.out]; simp [dm.nameM, HTOK.out, HVV.out, HON.out])))⟩
    | false =>
      go_wp2_with fail
      refine (new37r _ _).mono ?_
      rintro e we ⟨rfl, hbe, hre⟩
      have HSY := Lib.hid (C4.out.syn HG.out x (by have := HY.out; omega) (Nat.le_add_right _ _) hbe _ _ (Nat.le_refl _) hre _ (by rw [Hst0.out]))
      clear hbe hre
      go_wp2_with fail
      refine HSY.out.mono ?_
      rintro e wf ⟨v, rfl, hv⟩
      go_wp2_with fail
      go_ret2
      exact ⟨_, _, _, _, rfl, Lib.hid (.inr (hv.1.out.bad (by rw [HN.out]; simp [dm.nameM, HTOK.out, HVV.out, HON.out])))⟩
  · have hjz : ¬ (j : Int) = 0 := by omega
    have hjp : (0 : Int) < (j : Int) := by omega
    have hol : 0 < o.length := by have := HJ.out; omega
    obtain ⟨A, off, rfl, hcell⟩ := C3.out.byte hol
    obtain ⟨d, hd⟩ : ∃ d, o[0] = d := ⟨_, rfl⟩
    rw [hd] at hcell
    have hdb := d.toNat_lt
    have HO : Hid (o ≠ [] ∧ o.head? = some d) := Lib.hid (by
      cases o with
      | nil => simp at hol
      | cons c t => exact ⟨by simp, by rw [← hd]; rfl⟩)
    clear hd hol hj0
    by_cases h35 : d = 35
    · have hz : (d.toNat : Int) = 35 := by rw [h35]; rfl
      have H35 := Lib.hid h35
      clear h35
      go_wp2_with fail
      refine (new37r _ _).mono ?_
      rintro e we ⟨rfl, hbe, hre⟩
      have HSY := Lib.hid (C3.out.syn HG.out x (by have := HY.out; omega) (Nat.le_add_right _ _) hbe _ _ (Nat.le_refl _) hre _ (by rw [Hst0.out]))
      clear hbe hre
      go_wp2_with fail
      refine HSY.out.mono ?_
      rintro e wf ⟨v, rfl, hv⟩
      go_wp2_with fail
      go_ret2
      exact ⟨_, _, _, _, rfl, Lib.hid (.inr (hv.1.out.bad (by rw [HN.out]; simp [dm.nameM, HTOK.out, HVV.out, HO.out.2, H35.out])))⟩
    · have hz : ¬ (d.toNat : Int) = 35 := fun e => h35 (UInt8.toNat_inj.1 (by show d.toNat = 35; omega))
      have HC := Lib.hid (C3.out.comma HG.out)
      have H35 : Hid (¬ (o = [] ∨ o.head? = some 35)) := Lib.hid (by rw [HO.out.2]; simp [HO.out.1, h35])
      clear h35
      go_wp2_with fail
      refine HC.out.mono ?_
      rintro e w4 ⟨v4, rfl, h4⟩
      clear HC hcell
      rcases h4.out with ⟨x4, hb4, rfl, hc4⟩ | ⟨p4, x4, hb4, hf4⟩
      · have HB4 := Lib.hid hb4
        obtain ⟨r0, r1, k2, k3, k4, k5, k6, kz⟩ := hc4.cells HG.out
        have z5 := kz 5
        have C5 := Lib.hid (hc4.sec HG.out 1 (.int .u8 1) rfl)
        clear hb4 hc4 h4 k2 k3 k4 k6 kz
        go_wp2_with fail
        go_ret2
        refine ⟨_, _, _, _, rfl, Lib.hid (.inl ⟨o, x4, 1, y, ?_, HJ.out, rfl, ?_⟩)⟩
        · rw [HN.out]
          simp [dm.nameM, HTOK.out, HVV.out, H35.out, HB4.out]
        · obtain ⟨L, c⟩ := C5.out
          exact ⟨L, c.dl, c.step, c.pos, c.sec, c.frm, c.line, c.sk, c.esc, c.av, fun p hp => c.held p (by simp at hp; simp [hp])⟩
      · have HB4 := Lib.hid hb4
        have HF4 := Lib.hid hf4
        obtain ⟨L', hcl, X', Y', ms', rfl, hrest⟩ := hf4
        clear hb4 hcl hrest h4
        go_wp2_with fail
        go_ret2
        refine ⟨_, _, _, _, rfl, Lib.hid (.inr (HF4.out.bad ?_))⟩
        rw [HN.out]
        simp [dm.nameM, HTOK.out, HVV.out, H35.out, HB4.out]
end
end Go.Proofs.YtlcbcgillekphaaGreatDoor.dec
