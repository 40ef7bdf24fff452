/-
  Proved: the contract of the decoder's NextTag.
  Conditions: a decoder in memory whose measurement has been read.
-/
import Derived.Test.YtlcbcgillekphaaGreatDoorDhd
namespace Go.Proofs.YtlcbcgillekphaaGreatDoor.dec
open Go.RowKit Mem rw
set_option linter.unusedVariables false
set_option linter.unusedSimpArgs false

section
variable {b : Bool} {G : Cfg} {L0 : Lay} {w0 : World} {H : List (Option Addr × List UInt8)} {x s y n : Nat} {w : World}
theorem Ch.sub {H' : List (Option Addr × List UInt8)} (c : Ch b G L0 w0 H x s y n w) (h : ∀ p ∈ H', p ∈ H) : Ch b G L0 w0 H' x s y 0 w := by
  obtain ⟨L, c⟩ := c
  exact ⟨L, c.dl, c.step, c.pos, c.sec, c.frm, c.line, c.sk, c.esc, .inl rfl, fun p hp => c.held p (h p hp)⟩
def TagOut (G : Cfg) (L0 : Lay) (w0 : World) (r : dm.Res (List UInt8 × List UInt8) × dm.M) (e : Ending) (w' : World) : Prop :=
  (∃ k u x s y a c a2 c2, e = .returned (.tuple #[.slice a k.length c, .slice a2 u.length c2, .nilIface]) ∧ Hid (r = (.some (k, u), ⟨x, s, y⟩) ∧ k ≠ [] ∧ Ch false G L0 w0 [(a2, u), (a, k)] x s y 0 w')) ∨
  (e = .returned (.tuple #[.slice none 0 0, .slice none 0 0, .nilIface]) ∧ Hid (∃ x s y, r = (.none, ⟨x, s, y⟩) ∧ Ch false G L0 w0 [] x s y 0 w')) ∨
  (∃ v, e = .returned (.tuple #[.slice none 0 0, .slice none 0 0, v]) ∧ Hid (Bad G L0 w0 r w' v))
theorem Ch.tag_no (hG : Base G) (c : Ch false G L0 w0 H x s y n w) (hs : 1 < s) :
    Calls Tryz.prog 30 #[.pointer (some ⟨G.D, 0, none⟩)] w (TagOut G L0 w0 (dm.tagM G.T ⟨x, s, y⟩)) := by
  have HA := Lib.hid (c.adv_gt hG 1 hs)
  have HF : Hid (dm.tagM G.T ⟨x, s, y⟩ = (.none, ⟨x, s, y⟩) ∧ Ch false G L0 w0 [] x s y 0 w) := Lib.hid ⟨by simp [dm.tagM]; omega, c.sub (by simp)⟩
  clear c hG hs
  go_enter Tryz.func30, Tryz.ntmps30
  go_wp2_with fail
  refine HA.out.mono ?_
  rintro e w1 ⟨rfl, rfl⟩
  go_wp2_with fail
  go_ret3
  exact .inr (.inl ⟨rfl, Lib.hid ⟨_, _, _, HF.out.1, HF.out.2⟩⟩)
set_option maxRecDepth 100000 in
set_option maxHeartbeats 4000000 in
theorem Ch.tag (hG : Base G) (c : Ch false G L0 w0 H x 1 y n w) :
    Calls Tryz.prog 30 #[.pointer (some ⟨G.D, 0, none⟩)] w (TagOut G L0 w0 (dm.tagM G.T ⟨x, 1, y⟩)) := by
  have HG := Lib.hid hG
  have HA := Lib.hid (c.adv_eq hG)
  have C0 := Lib.hid c
  clear c hG
  go_enter Tryz.func30, Tryz.ntmps30
  go_wp2_with fail
  refine HA.out.mono ?_
  rintro e w1 ⟨rfl, rfl⟩
  clear HA
  have HE := Lib.hid (C0.out.ens HG.out)
  go_wp2_with fail
  refine HE.out.mono ?_
  rintro e we ⟨he, hx⟩
  have C1 := Lib.hid hx.out
  clear hx HE
  obtain ⟨bx, hbq⟩ : ∃ bq, decide (x < G.T.length) = bq := ⟨_, rfl⟩
  rw [hbq] at he
  subst he
  have HBX := Lib.hid hbq
  clear hbq
  cases bx with
  | false =>
    have HNE : Hid (¬ G.T[x]? = some 32) := Lib.hid (by rw [List.getElem?_eq_none (by have := HBX.out; simpa using this)]; simp)
    obtain ⟨o, q, htok⟩ : ∃ o' q', dm.tok 1 (G.T.drop x) = (o', q') := ⟨_, _, rfl⟩
    have HTOK := Lib.hid htok
    clear htok
    go_wp2_with fail
    refine (set.mk_tagKeyChars _).mono ?_
    rintro e wa ⟨R, rfl, hR⟩
    have HR := Lib.hid hR
    clear hR
    go_wp2_with fail
    refine (esc.esc_at1 _).mono ?_
    rintro e wb ⟨rfl, he, hbe⟩
    have ht := C1.out.esc HG.out 1 (by decide) HR.out he (Nat.le_refl _) (But.ofBelow hbe)
    rw [HTOK.out] at ht
    dsimp only at ht
    obtain ⟨st0, hst⟩ : ∃ st : Nat, x - y = st := ⟨_, rfl⟩
    rw [hst] at ht
    have Hst0 := Lib.hid hst
    have HT := Lib.hid ht
    clear ht he hbe HR hst
    go_wp2_with fail
    refine HT.out.mono ?_
    rintro e wc ⟨a, j, cp, v, rfl, hh⟩
    clear HT
    have HJ := Lib.hid hh.out.1
    rcases hh.out.2 with ⟨hv, rfl, hc⟩ | ⟨hv, hf⟩
    rotate_left
    · have HVF := Lib.hid hv
      have HFL := Lib.hid hf
      obtain ⟨L', hcl, X', Y', ms', rfl, hrest⟩ := hf
      clear hcl hrest hv hh
      go_wp2_with fail
      go_ret3
      exact .inr (.inr ⟨_, rfl, Lib.hid (HFL.out.bad (by simp [dm.tagM, HNE.out, HTOK.out, HVF.out]))⟩)
    have HVV := Lib.hid hv
    have C3 := Lib.hid hc
    clear hv hc hh
    by_cases hj0 : j = 0
    · have hjz : (j : Int) = 0 := by omega
      have HON : Hid (o = []) := Lib.hid (List.eq_nil_of_length_eq_zero (by rw [← HJ.out]; exact hj0))
      clear hj0
      have HE := Lib.hid (C3.out.ens HG.out)
      go_wp2_with fail
      refine HE.out.mono ?_
      rintro e we ⟨he, hx⟩
      have C4 := Lib.hid hx.out
      clear hx HE
      obtain ⟨bq, hbq⟩ : ∃ bq, decide (x + q < G.T.length) = bq := ⟨_, rfl⟩
      rw [hbq] at he
      subst he
      have HBQ := Lib.hid hbq
      clear hbq
      cases bq with
      | true =>
        go_wp2_with fail
        refine (new37r _ _).mono ?_
        rintro e we ⟨rfl, hbe, hre⟩
        have HSY := Lib.hid (C4.out.syn HG.out x (C0.out.from_le) (Nat.le_add_right _ _) hbe _ _ (Nat.le_refl _) hre _ (by rw [Hst0.out]))
        clear hbe hre
        go_wp2_with fail
        refine HSY.out.mono ?_
        rintro e wf ⟨v, rfl, hv⟩
        go_wp2_with fail
        go_ret3
        exact .inr (.inr ⟨_, rfl, Lib.hid (hv.1.out.bad (by simp [dm.tagM, HNE.out, HTOK.out, HVV.out, HON.out]))⟩)
      | false =>
        go_wp2_with fail
        refine (new37r _ _).mono ?_
        rintro e we ⟨rfl, hbe, hre⟩
        have HSY := Lib.hid (C4.out.syn HG.out x (C0.out.from_le) (Nat.le_add_right _ _) hbe _ _ (Nat.le_refl _) hre _ (by rw [Hst0.out]))
        clear hbe hre
        go_wp2_with fail
        refine HSY.out.mono ?_
        rintro e wf ⟨v, rfl, hv⟩
        go_wp2_with fail
        go_ret3
        exact .inr (.inr ⟨_, rfl, Lib.hid (hv.1.out.bad (by simp [dm.tagM, HNE.out, HTOK.out, HVV.out, HON.out]))⟩)
    · exfalso
      have h1 := HTOK.out
      have h2 : G.T.drop x = [] := List.drop_eq_nil_of_le (by have := HBX.out; simpa using this)
      rw [h2] at h1
      have h3 : o = [] := by
        have : dm.tok 1 [] = ([], 0) := rfl
        rw [this] at h1
        exact (congrArg Prod.fst h1).symm
      exact hj0 (by rw [HJ.out, h3]; rfl)
  | true =>
    go_wp2_with fail
    refine (set.mk_fieldSeparatorSpace _).mono ?_
    rintro e wa ⟨R, rfl, hR⟩
    have C2 := Lib.hid (C1.out.made hR)
    have HGT : Hid (∀ d q, Calls Tryz.prog 58 #[.pointer (some ⟨R, 0, none⟩), .int .u8 (UInt8.toNat d)] (wa.drewN q) fun e w' => e = .returned (.bool (dm.inS 0 d)) ∧ wa.drewN q = w') := Lib.hid fun d q => by
      have := set.get33 R (set.inN 0) d (wa.drewN q) hR.2.1
      rw [set.inN_byte] at this
      exact this
    clear hR
    obtain ⟨dx, hd⟩ : ∃ d, G.T.getD (x) 0 = d := ⟨_, rfl⟩
    have HLTdx : Hid (x < G.T.length) := Lib.hid (by simpa using HBX.out)
    have HSdx : Hid (G.T[x]? = some dx) := Lib.hid (by rw [getD_some HLTdx.out, hd])
    have HDdx := Lib.hid hd
    have HA := C2.out.at0 HG.out
    rw [hd] at HA
    have HA := Lib.hid HA
    have hdbdx := dx.toNat_lt
    clear hd
    go_wp2_with fail
    refine HA.out.mono ?_
    rintro e we ⟨rfl, qq, rfl⟩
    clear HA
    have C2d := Lib.hid (C2.out.drewN qq)
    by_cases h32 : dx = 32
    · have h0 : dm.inS 0 dx = true := by rw [h32]; decide
      have HG1 := HGT.out dx
      rw [h0] at HG1
      have HG1 := Lib.hid HG1
      have H32 : Hid (G.T[x]? = some 32) := Lib.hid (by rw [HSdx.out, h32])
      clear h0 h32 HGT
      go_wp2_with fail
      refine (HG1.out _).mono ?_
      rintro e w3 ⟨rfl, rfl⟩
      clear HG1
      go_wp2_with fail
      refine (set.mk_fieldSeparatorSpace _).mono ?_
      rintro e wa ⟨R, rfl, hR⟩
      have HT := Lib.hid (C2d.out.take HG.out hR (But.refl [] _) (by decide))
      clear hR
      go_wp2_with fail
      refine HT.out.mono ?_
      rintro e wb ⟨at_, jt, ct, rfl, hx⟩
      have HJT := Lib.hid hx.out.1
      have C3 := Lib.hid hx.out.2.1
      have Hct := Lib.hid hx.out.2.2
      clear hx HT
      obtain ⟨r0, r1, k2, k3, k4, k5, k6, kz⟩ := C3.out.cells HG.out
      have z5 := kz 5
      have C4 := Lib.hid (C3.out.sec HG.out 2 (.int .u8 2) rfl)
      clear k2 k3 k4 k6 kz
      go_wp2_with fail
      go_ret3
      exact .inr (.inl ⟨rfl, Lib.hid ⟨x + jt, 2, y, by simp [dm.tagM, H32.out, ← HJT.out], C4.out.sub (by simp)⟩⟩)
    · have h0 : dm.inS 0 dx = false := by
        simp [dm.inS]
        exact fun e => h32 (UInt8.toNat_inj.1 e)
      have HG1 := HGT.out dx
      rw [h0] at HG1
      have HG1 := Lib.hid HG1
      have HNE : Hid (¬ G.T[x]? = some 32) := Lib.hid (by rw [HSdx.out]; simp [h32])
      clear h0 h32 HGT
      go_wp2_with fail
      refine (HG1.out _).mono ?_
      rintro e w3 ⟨rfl, rfl⟩
      clear HG1
      obtain ⟨o, q, htok⟩ : ∃ o' q', dm.tok 1 (G.T.drop x) = (o', q') := ⟨_, _, rfl⟩
      have HTOK := Lib.hid htok
      clear htok
      go_wp2_with fail
      refine (set.mk_tagKeyChars _).mono ?_
      rintro e wa ⟨R, rfl, hR⟩
      have HR := Lib.hid hR
      clear hR
      go_wp2_with fail
      refine (esc.esc_at1 _).mono ?_
      rintro e wb ⟨rfl, he, hbe⟩
      have ht := C2d.out.esc HG.out 1 (by decide) HR.out he (Nat.le_refl _) (But.ofBelow hbe)
      rw [HTOK.out] at ht
      dsimp only at ht
      obtain ⟨st0, hst⟩ : ∃ st : Nat, x - y = st := ⟨_, rfl⟩
      rw [hst] at ht
      have Hst0 := Lib.hid hst
      have HT := Lib.hid ht
      clear ht he hbe HR hst
      go_wp2_with fail
      refine HT.out.mono ?_
      rintro e wc ⟨a, j, cp, v, rfl, hh⟩
      clear HT
      have HJ := Lib.hid hh.out.1
      rcases hh.out.2 with ⟨hv, rfl, hc⟩ | ⟨hv, hf⟩
      rotate_left
      · have HVF := Lib.hid hv
        have HFL := Lib.hid hf
        obtain ⟨L', hcl, X', Y', ms', rfl, hrest⟩ := hf
        clear hcl hrest hv hh
        go_wp2_with fail
        go_ret3
        exact .inr (.inr ⟨_, rfl, Lib.hid (HFL.out.bad (by simp [dm.tagM, HNE.out, HTOK.out, HVF.out]))⟩)
      have HVV := Lib.hid hv
      have C3 := Lib.hid hc
      clear hv hc hh
      by_cases hj0 : j = 0
      · have hjz : (j : Int) = 0 := by omega
        have HON : Hid (o = []) := Lib.hid (List.eq_nil_of_length_eq_zero (by rw [← HJ.out]; exact hj0))
        clear hj0
        have HE := Lib.hid (C3.out.ens HG.out)
        go_wp2_with fail
        refine HE.out.mono ?_
        rintro e we ⟨he, hx⟩
        have C4 := Lib.hid hx.out
        clear hx HE
        obtain ⟨bq, hbq⟩ : ∃ bq, decide (x + q < G.T.length) = bq := ⟨_, rfl⟩
        rw [hbq] at he
        subst he
        have HBQ := Lib.hid hbq
        clear hbq
        cases bq with
        | true =>
          go_wp2_with fail
          refine (new37r _ _).mono ?_
          rintro e we ⟨rfl, hbe, hre⟩
          have HSY := Lib.hid (C4.out.syn HG.out x (C0.out.from_le) (Nat.le_add_right _ _) hbe _ _ (Nat.le_refl _) hre _ (by rw [Hst0.out]))
          clear hbe hre
          go_wp2_with fail
          refine HSY.out.mono ?_
          rintro e wf ⟨v, rfl, hv⟩
          go_wp2_with fail
          go_ret3
          exact .inr (.inr ⟨_, rfl, Lib.hid (hv.1.out.bad (by simp [dm.tagM, HNE.out, HTOK.out, HVV.out, HON.out]))⟩)
        | false =>
          go_wp2_with fail
          refine (new37r _ _).mono ?_
          rintro e we ⟨rfl, hbe, hre⟩
          have HSY := Lib.hid (C4.out.syn HG.out x (C0.out.from_le) (Nat.le_add_right _ _) hbe _ _ (Nat.le_refl _) hre _ (by rw [Hst0.out]))
          clear hbe hre
          go_wp2_with fail
          refine HSY.out.mono ?_
          rintro e wf ⟨v, rfl, hv⟩
          go_wp2_with fail
          go_ret3
          exact .inr (.inr ⟨_, rfl, Lib.hid (hv.1.out.bad (by simp [dm.tagM, HNE.out, HTOK.out, HVV.out, HON.out]))⟩)
      · have hjz : ¬ (j : Int) = 0 := by omega
        have hjp : (0 : Int) < (j : Int) := by omega
        have hol : 0 < o.length := by have := HJ.out; omega
        have HON : Hid (o ≠ []) := Lib.hid (fun e => by rw [e] at hol; simp at hol)
        clear hj0 hol
        have HE := Lib.hid (C3.out.ens HG.out)
        go_wp2_with fail
        refine HE.out.mono ?_
        rintro e we ⟨he, hx⟩
        have C4 := Lib.hid hx.out
        clear hx HE
        obtain ⟨bq, hbq⟩ : ∃ bq, decide (x + q < G.T.length) = bq := ⟨_, rfl⟩
        rw [hbq] at he
        subst he
        have HBQ := Lib.hid hbq
        clear hbq
        cases bq with
        | false =>
          have HNO : Hid (G.T[x + q]? = none) := Lib.hid (List.getElem?_eq_none (by have := HBQ.out; simpa using this))
          have HE := Lib.hid (C4.out.ens HG.out)
          go_wp2_with fail
          refine HE.out.mono ?_
          rintro e we ⟨he, hx⟩
          have C5 := Lib.hid hx.out
          clear hx HE
          obtain ⟨bq2, hbq⟩ : ∃ bq, decide (x + q < G.T.length) = bq := ⟨_, rfl⟩
          rw [hbq] at he
          subst he
          have HBQ2 := Lib.hid hbq
          clear hbq
          cases bq2 with
          | true => exfalso; have h1 := HBQ.out; have h2 := HBQ2.out; rw [h1] at h2; cases h2
          | false =>
            go_wp2_with fail
            refine (new37r _ _).mono ?_
            rintro e we ⟨rfl, hbe, hre⟩
            have HSY := Lib.hid (C5.out.syn HG.out x (C0.out.from_le) (Nat.le_add_right _ _) hbe _ _ (Nat.le_refl _) hre _ (by rw [Hst0.out]))
            clear hbe hre
            go_wp2_with fail
            refine HSY.out.mono ?_
            rintro e wf ⟨v, rfl, hv⟩
            go_wp2_with fail
            go_ret3
            exact .inr (.inr ⟨_, rfl, Lib.hid (hv.1.out.bad (by simp [dm.tagM, HNE.out, HTOK.out, HVV.out, HON.out, HNO.out]))⟩)
        | true =>
          obtain ⟨d, hd⟩ : ∃ d, G.T.getD (x + q) 0 = d := ⟨_, rfl⟩
          have HLTd : Hid (x + q < G.T.length) := Lib.hid (by simpa using HBQ.out)
          have HSd : Hid (G.T[x + q]? = some d) := Lib.hid (by rw [getD_some HLTd.out, hd])
          have HDd := Lib.hid hd
          have HA := C4.out.at0 HG.out
          rw [hd] at HA
          have HA := Lib.hid HA
          have hdbd := d.toNat_lt
          clear hd
          go_wp2_with fail
          refine HA.out.mono ?_
          rintro e we ⟨rfl, qq, rfl⟩
          clear HA
          have C5 := Lib.hid (C4.out.drewN qq)
          by_cases h61 : d = 61
          · have hz61 : (d.toNat : Int) = 61 := by rw [h61]; rfl
            have hb61 : ((d.toNat : Int) != 61) = false := by rw [hz61]; rfl
            have hbj : ((j : Int) == 0) = false := by simp; omega
            have H61 := Lib.hid h61
            clear h61
            have HV := Lib.hid (C5.out.adv HG.out HLTd.out (by rw [HDd.out]; rw [H61.out]; decide))
            go_wp2_with fail
            refine HV.out.mono ?_
            rintro e we ⟨rfl, hx⟩
            have C6 := Lib.hid hx.out
            clear HV hx
            obtain ⟨o2, q2, htok⟩ : ∃ o' q', dm.tok 2 (G.T.drop (x + q + 1)) = (o', q') := ⟨_, _, rfl⟩
            have HTOK2 := Lib.hid htok
            clear htok
            go_wp2_with fail
            refine (set.mk_tagValChars _).mono ?_
            rintro e wa ⟨R, rfl, hR⟩
            have HR := Lib.hid hR
            clear hR
            go_wp2_with fail
            refine (esc.esc_at2 _).mono ?_
            rintro e wb ⟨rfl, he, hbe⟩
            have ht := C6.out.esc HG.out 2 (by decide) HR.out he (Nat.le_refl _) (But.ofBelow hbe)
            rw [HTOK2.out] at ht
            dsimp only at ht
            obtain ⟨st1, hst⟩ : ∃ st : Nat, (x + q + 1) - y = st := ⟨_, rfl⟩
            rw [hst] at ht
            have Hst1 := Lib.hid hst
            have HT := Lib.hid ht
            clear ht he hbe HR hst
            go_wp2_with fail
            refine HT.out.mono ?_
            rintro e wc ⟨a2, j2, cp2, v, rfl, hh⟩
            clear HT
            have HJ2 := Lib.hid hh.out.1
            rcases hh.out.2 with ⟨hv, rfl, hc⟩ | ⟨hv, hf⟩
            rotate_left
            · have HVF := Lib.hid hv
              have HFL := Lib.hid hf
              obtain ⟨L', hcl, X', Y', ms', rfl, hrest⟩ := hf
              clear hcl hrest hv hh
              go_wp2_with fail
              go_ret3
              exact .inr (.inr ⟨_, rfl, Lib.hid (HFL.out.bad (by simp [dm.tagM, HNE.out, HTOK.out, HVV.out, HON.out, HSd.out, H61.out, HTOK2.out, HVF.out]))⟩)
            have HVV2 := Lib.hid hv
            have C7 := Lib.hid hc
            clear hv hc hh
            by_cases hj20 : j2 = 0
            · have hj2z : (j2 : Int) = 0 := by omega
              have HON2 : Hid (o2 = []) := Lib.hid (List.eq_nil_of_length_eq_zero (by rw [← HJ2.out]; exact hj20))
              clear hj20
              go_wp2_with fail
              refine (new37r _ _).mono ?_
              rintro e we ⟨rfl, hbe, hre⟩
              have HSY := Lib.hid (C7.out.syn HG.out (x + q + 1) (by have := C0.out.from_le; omega) (Nat.le_add_right _ _) hbe _ _ (Nat.le_refl _) hre _ (by rw [Hst1.out]))
              clear hbe hre
              go_wp2_with fail
              refine HSY.out.mono ?_
              rintro e wf ⟨v, rfl, hv⟩
              go_wp2_with fail
              go_ret3
              exact .inr (.inr ⟨_, rfl, Lib.hid (hv.1.out.bad (by simp [dm.tagM, HNE.out, HTOK.out, HVV.out, HON.out, HSd.out, H61.out, HTOK2.out, HVV2.out, HON2.out]))⟩)
            · have hj2z : ¬ (j2 : Int) = 0 := by omega
              have HON2 : Hid (o2 ≠ []) := Lib.hid (fun e => hj20 (by rw [HJ2.out, e]; rfl))
              clear hj20
              have HE := Lib.hid (C7.out.ens HG.out)
              go_wp2_with fail
              refine HE.out.mono ?_
              rintro e we ⟨he, hx⟩
              have C8 := Lib.hid hx.out
              clear hx HE
              obtain ⟨bq3, hbq⟩ : ∃ bq, decide (x + q + 1 + q2 < G.T.length) = bq := ⟨_, rfl⟩
              rw [hbq] at he
              subst he
              have HBQ3 := Lib.hid hbq
              clear hbq
              cases bq3 with
              | false =>
                have HGE : Hid (G.T.length ≤ x + q + 1 + q2) := Lib.hid (by have := HBQ3.out; simpa using this)
                obtain ⟨r0, r1, k2, k3, k4, k5, k6, kz⟩ := C8.out.cells HG.out
                have z5 := kz 5
                have C9 := Lib.hid (C8.out.sec HG.out 2 (.int .u8 2) rfl)
                clear k2 k3 k4 k6 kz
                go_wp2_with fail
                go_ret3
                exact .inl ⟨o, o2, _, _, _, _, _, _, _, by rw [HJ.out, HJ2.out]; rfl, Lib.hid ⟨by simp [dm.tagM, HNE.out, HTOK.out, HVV.out, HON.out, HSd.out, H61.out, HTOK2.out, HVV2.out, HON2.out, HGE.out], HON.out, C9.out.sub (by simp)⟩⟩
              | true =>
                have HGE : Hid (¬ G.T.length ≤ x + q + 1 + q2) := Lib.hid (by have := HBQ3.out; simpa using this)
                have HC := Lib.hid (C8.out.comma HG.out)
                go_wp2_with fail
                refine HC.out.mono ?_
                rintro e we ⟨v4, rfl, h4⟩
                clear HC
                rcases h4.out with ⟨x4, hb4, rfl, hc4⟩ | ⟨p4, x4, hb4, hf4⟩
                · have HB4 := Lib.hid hb4
                  have C9 := Lib.hid hc4
                  clear hb4 hc4 h4
                  go_wp2_with fail
                  go_ret3
                  exact .inl ⟨o, o2, _, _, _, _, _, _, _, by rw [HJ.out, HJ2.out]; rfl, Lib.hid ⟨by simp [dm.tagM, HNE.out, HTOK.out, HVV.out, HON.out, HSd.out, H61.out, HTOK2.out, HVV2.out, HON2.out, HGE.out, HB4.out], HON.out, C9.out.sub (by simp)⟩⟩
                · have HB4 := Lib.hid hb4
                  have HF4 := Lib.hid hf4
                  obtain ⟨L', hcl, X', Y', ms', rfl, hrest⟩ := hf4
                  clear hb4 hcl hrest h4
                  go_wp2_with fail
                  go_ret3
                  exact .inr (.inr ⟨_, rfl, Lib.hid (HF4.out.bad (by simp [dm.tagM, HNE.out, HTOK.out, HVV.out, HON.out, HSd.out, H61.out, HTOK2.out, HVV2.out, HON2.out, HGE.out, HB4.out]))⟩)
          · have hzd : ¬ (d.toNat : Int) = 61 := fun e => h61 (UInt8.toNat_inj.1 (by show d.toNat = 61; omega))
            have hb61 : ((d.toNat : Int) != 61) = true := by simp; exact hzd
            have hbj : ((j : Int) == 0) = false := by simp; omega
            have HN61 : Hid (d ≠ 61) := Lib.hid h61
            clear h61
            have HE := Lib.hid (C5.out.ens HG.out)
            go_wp2_with fail
            refine HE.out.mono ?_
            rintro e we ⟨he, hx⟩
            have C6 := Lib.hid hx.out
            clear hx HE
            obtain ⟨bq2, hbq⟩ : ∃ bq, decide (x + q < G.T.length) = bq := ⟨_, rfl⟩
            rw [hbq] at he
            subst he
            have HBQ2 := Lib.hid hbq
            clear hbq
            cases bq2 with
            | false => exfalso; have h1 := HBQ.out; have h2 := HBQ2.out; rw [h1] at h2; cases h2
            | true =>
              go_wp2_with fail
              refine (new37r _ _).mono ?_
              rintro e we ⟨rfl, hbe, hre⟩
              have HSY := Lib.hid (C6.out.syn HG.out x (C0.out.from_le) (Nat.le_add_right _ _) hbe _ _ (Nat.le_refl _) hre _ (by rw [Hst0.out]))
              clear hbe hre
              go_wp2_with fail
              refine HSY.out.mono ?_
              rintro e wf ⟨v, rfl, hv⟩
              go_wp2_with fail
              go_ret3
              exact .inr (.inr ⟨_, rfl, Lib.hid (hv.1.out.bad (by simp [dm.tagM, HNE.out, HTOK.out, HVV.out, HON.out, HSd.out, HN61.out]))⟩)
end
end Go.Proofs.YtlcbcgillekphaaGreatDoor.dec
