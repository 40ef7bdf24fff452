/-
  Proved: the contracts of the decoder's TimeBytes and Next.
  Conditions: a decoder in memory.
-/
import Derived.Test.YtlcbcgillekphaaGreatDoorDhf
namespace Go.Proofs.YtlcbcgillekphaaGreatDoor.dec
open Go.RowKit Mem rw
set_option linter.unusedVariables false
set_option linter.unusedSimpArgs false

section
variable {b : Bool} {G : Cfg} {L0 : Lay} {w0 : World} {H : List (Option Addr × List UInt8)} {x s y n : Nat} {w : World}
def TimeOut (G : Cfg) (L0 : Lay) (w0 : World) (r : dm.Res (List UInt8) × dm.M) (e : Ending) (w' : World) : Prop :=
  (∃ (o : List UInt8) (x s y : Nat) (a : Option Addr) (c : Nat), e = .returned (.tuple #[.slice a o.length c, .nilIface]) ∧ Hid (r = (.some o, ⟨x, s, y⟩) ∧ (o = [] → a = none ∧ c = 0) ∧ Ch false G L0 w0 [(a, o)] x s y 0 w')) ∨
  (e = .returned (.tuple #[.slice none 0 0, .nilIface]) ∧ Hid (∃ x s y, r = (.none, ⟨x, s, y⟩) ∧ Ch false G L0 w0 [] x s y 0 w')) ∨
  (∃ v, e = .returned (.tuple #[.slice none 0 0, v]) ∧ Hid (Bad G L0 w0 r w' v))
set_option maxRecDepth 100000 in
theorem Ch.time_no (hG : Base G) (c : Ch false G L0 w0 H x s y n w) (hs : 3 < s) :
    Calls Tryz.prog 32 #[.pointer (some ⟨G.D, 0, none⟩)] w (TimeOut G L0 w0 (dm.timeM G.T ⟨x, s, y⟩)) := by
  have HA := Lib.hid (c.adv_gt hG 3 hs)
  have HF : Hid (dm.timeM G.T ⟨x, s, y⟩ = (.none, ⟨x, s, y⟩) ∧ Ch false G L0 w0 [] x s y 0 w) := Lib.hid ⟨by simp [dm.timeM]; omega, c.sub (by simp)⟩
  clear c hG hs
  go_enter Tryz.func32, Tryz.ntmps32
  go_wp2_with fail
  refine HA.out.mono ?_
  rintro e w1 ⟨rfl, rfl⟩
  go_wp2_with fail
  go_ret2
  exact .inr (.inl ⟨rfl, Lib.hid ⟨_, _, _, HF.out.1, HF.out.2⟩⟩)
theorem Ch.nilhold {a : Option Addr} (c : Ch b G L0 w0 ((a, []) :: H) x s y n w) : Ch b G L0 w0 ((none, []) :: H) x s y n w := by
  obtain ⟨L, c⟩ := c
  exact ⟨L, c.dl, c.step, c.pos, c.sec, c.frm, c.line, c.sk, c.esc, c.av, fun p hp => by
    rcases List.mem_cons.1 hp with h | h
    · rw [h]; exact ⟨.inl ⟨rfl, rfl⟩, fun A off e => by cases e⟩
    · exact c.held p (by simp [h])⟩
set_option maxRecDepth 100000 in
set_option maxHeartbeats 4000000 in
theorem Ch.time (hG : Base G) (c : Ch false G L0 w0 H x 3 y n w) :
    Calls Tryz.prog 32 #[.pointer (some ⟨G.D, 0, none⟩)] w (TimeOut G L0 w0 (dm.timeM G.T ⟨x, 3, y⟩)) := by
  have HG := Lib.hid hG
  have HA := Lib.hid (c.adv_eq hG)
  have C0 := Lib.hid c
  obtain ⟨r0, r1, k2, k3, k4, k5, k6, kz⟩ := c.cells hG
  obtain ⟨st, hst⟩ : ∃ st : Nat, x - y = st := ⟨_, rfl⟩
  rw [hst] at k4
  have HST := Lib.hid hst
  clear c hG k5 k6 kz hst
  go_enter Tryz.func32, Tryz.ntmps32
  go_wp2_with fail
  refine HA.out.mono ?_
  rintro e w1 ⟨rfl, rfl⟩
  clear HA
  go_wp2_with fail
  go_quiet (fail)
  have C1 := Lib.hid (C0.out.drewN nq)
  clear k2 k3 k4
  go_wp2_with fail
  refine (set.mk_timeChars _).mono ?_
  rintro e wa ⟨R, rfl, hR⟩
  have HT := Lib.hid (C1.out.take HG.out hR (But.refl [] _) (by decide))
  clear hR
  go_wp2_with fail
  refine HT.out.mono ?_
  rintro e wb ⟨a, j, c7, rfl, hx⟩
  have HJ := Lib.hid hx.out.1
  have C2 := Lib.hid hx.out.2.1
  have Hc7 := Lib.hid hx.out.2.2
  clear hx HT
  by_cases hj0 : j = 0
  · have hjz : (j : Int) = 0 := by omega
    have HJ0 := Lib.hid hj0
    have hnil := C2.out
    rw [show (G.T.drop x).take j = [] by rw [hj0, List.take_zero]] at hnil
    have C2n := Lib.hid hnil.nilhold
    have HNIL : Hid ((G.T.drop x).take j = []) := Lib.hid (by rw [hj0, List.take_zero])
    have HIF : Hid ((if j = 0 then 5 else 3) = 5) := Lib.hid (if_pos hj0)
    clear hj0 hnil
    obtain ⟨r0, r1, k2, k3, k4, k5, k6, kz⟩ := C2n.out.cells HG.out
    have z5 := kz 5
    have C3 := Lib.hid (C2n.out.sec HG.out 5 (.int .u8 5) rfl)
    clear k2 k3 k4 k6 kz
    have HE := Lib.hid (C3.out.ens HG.out)
    go_wp2_with fail
    refine HE.out.mono ?_
    rintro e we ⟨he, hx⟩
    have C5 := Lib.hid hx.out
    clear hx HE
    obtain ⟨bq5, hbq⟩ : ∃ bq, decide (x + j < G.T.length) = bq := ⟨_, rfl⟩
    rw [hbq] at he
    subst he
    have HBQ5 := Lib.hid hbq
    clear hbq
    cases bq5 with
    | false =>
      have HNO : Hid (G.T[x + j]? = none) := Lib.hid (List.getElem?_eq_none (by have := HBQ5.out; simpa using this))
      obtain ⟨r0, r1, k2, k3, k4, k5, k6, kz⟩ := C5.out.cells HG.out
      have z5 := kz 5
      have C6 := Lib.hid (C5.out.sec HG.out 5 (.int .u8 5) rfl)
      clear k2 k3 k4 k6 kz
      go_wp2_with fail
      go_ret2
      exact .inl ⟨[], _, _, _, _, _, rfl, Lib.hid ⟨by simp [dm.timeM, ← HJ.out, HNO.out, HIF.out, HNIL.out], fun _ => ⟨rfl, rfl⟩, C6.out.sub (by simp)⟩⟩
    | true =>
      obtain ⟨da, hd⟩ : ∃ d, G.T.getD (x + j) 0 = d := ⟨_, rfl⟩
      have HLTda : Hid (x + j < G.T.length) := Lib.hid (by simpa using HBQ5.out)
      have HSda : Hid (G.T[x + j]? = some da) := Lib.hid (by rw [getD_some HLTda.out, hd])
      have HDda := Lib.hid hd
      have hdbda := da.toNat_lt
      clear hd
      go_wp2_with fail
      refine (set.mk_whitespace _).mono ?_
      rintro e wa ⟨R, rfl, hR⟩
      have C6 := Lib.hid (C5.out.made hR)
      obtain ⟨bw, hbw⟩ : ∃ bw, dm.white da = bw := ⟨_, rfl⟩
      have HGT : Hid (∀ q, Calls Tryz.prog 58 #[.pointer (some ⟨R, 0, none⟩), .int .u8 (UInt8.toNat da)] (wa.drewN q) fun e w' => e = .returned (.bool bw) ∧ wa.drewN q = w') := Lib.hid fun q => by
        have := set.get33 R (set.inN 1) da (wa.drewN q) hR.2.1
        rw [set.inN_byte, show dm.inS 1 da = bw from hbw] at this
        exact this
      have HBW := Lib.hid hbw
      have HA := C6.out.at0 HG.out
      rw [HDda.out] at HA
      have HA := Lib.hid HA
      clear hR hbw
      go_wp2_with fail
      refine HA.out.mono ?_
      rintro e wa2 ⟨rfl, qq, rfl⟩
      have C7 := Lib.hid (C6.out.drewN qq)
      clear HA
      go_wp2_with fail
      refine (HGT.out _).mono ?_
      rintro e wb ⟨rfl, rfl⟩
      clear HGT
      cases bw with
      | false =>
        go_wp2_with fail
        refine (set.mk_notEOL _).mono ?_
        rintro e wa ⟨R, rfl, hR⟩
        have HT := Lib.hid (C7.out.take HG.out hR (But.refl [] _) (by decide))
        clear hR
        go_wp2_with fail
        refine HT.out.mono ?_
        rintro e wb ⟨at_, jt, ct, rfl, hx⟩
        have HJT := Lib.hid hx.out.1
        have C8 := Lib.hid hx.out.2.1
        have Hct := Lib.hid hx.out.2.2
        clear hx HT
        go_wp2_with fail
        refine (new37r _ _).mono ?_
        rintro e we ⟨rfl, hbe, hre⟩
        have HSY := Lib.hid (C8.out.syn HG.out x (C0.out.from_le) (by omega) hbe _ _ (Nat.le_refl _) hre _ (by rw [HST.out]))
        clear hbe hre
        go_wp2_with fail
        refine HSY.out.mono ?_
        rintro e wf ⟨v, rfl, hv⟩
        go_wp2_with fail
        go_ret2
        exact .inr (.inr ⟨_, rfl, Lib.hid (hv.1.out.bad (by simp [dm.timeM, ← HJ.out, HIF.out, HNIL.out, HSda.out, HBW.out, ← HJT.out]))⟩)
      | true =>
        go_wp2_with fail
        refine (set.mk_fieldSeparatorSpace _).mono ?_
        rintro e wa ⟨R, rfl, hR⟩
        have HT := Lib.hid (C7.out.take HG.out hR (But.refl [] _) (by decide))
        clear hR
        go_wp2_with fail
        refine HT.out.mono ?_
        rintro e wb ⟨at_, jt, ct, rfl, hx⟩
        have HJT := Lib.hid hx.out.1
        have C8 := Lib.hid hx.out.2.1
        have Hct := Lib.hid hx.out.2.2
        clear hx HT
        have HE := Lib.hid (C8.out.ens HG.out)
        go_wp2_with fail
        refine HE.out.mono ?_
        rintro e we ⟨he, hx⟩
        have C9 := Lib.hid hx.out
        clear hx HE
        obtain ⟨bq6, hbq⟩ : ∃ bq, decide (x + j + jt < G.T.length) = bq := ⟨_, rfl⟩
        rw [hbq] at he
        subst he
        have HBQ6 := Lib.hid hbq
        clear hbq
        cases bq6 with
        | false =>
          have HEO : Hid (dm.eol (G.T.drop (x + j + jt)) = some 0) := Lib.hid (by rw [List.drop_eq_nil_of_le (by have := HBQ6.out; simpa using this)]; rfl)
          obtain ⟨r0, r1, k2, k3, k4, k5, k6, kz⟩ := C9.out.cells HG.out
          have z5 := kz 5
          have C10 := Lib.hid (C9.out.sec HG.out 5 (.int .u8 5) rfl)
          clear k2 k3 k4 k6 kz
          go_wp2_with fail
          go_ret2
          exact .inl ⟨[], _, _, _, _, _, rfl, Lib.hid ⟨by simp [dm.timeM, ← HJ.out, HIF.out, HNIL.out, HSda.out, HBW.out, ← HJT.out, HEO.out], fun _ => ⟨rfl, rfl⟩, C10.out.sub (by simp)⟩⟩
        | true =>
          have HEO := C9.out.eol HG.out
          obtain ⟨er, her⟩ : ∃ er, dm.eol (G.T.drop (x + j + jt)) = er := ⟨_, rfl⟩
          rw [her] at HEO
          have HER := Lib.hid her
          have HEO := Lib.hid HEO
          clear her
          cases er with
          | some e0 =>
            have HEN : Hid (eolN (G.T.drop (x + j + jt)) = e0) := Lib.hid (by unfold eolN; rw [HER.out]; rfl)
            go_wp2_with fail
            refine HEO.out.mono ?_
            rintro e wc2 ⟨rfl, hx⟩
            have C10 := hx.out
            rw [HEN.out] at C10
            have C10 := Lib.hid C10
            clear hx HEO
            obtain ⟨r0, r1, k2, k3, k4, k5, k6, kz⟩ := C10.out.cells HG.out
            have z5 := kz 5
            have C11 := Lib.hid (C10.out.sec HG.out 5 (.int .u8 5) rfl)
            clear k2 k3 k4 k6 kz
            go_wp2_with fail
            go_ret2
            exact .inl ⟨[], _, _, _, _, _, rfl, Lib.hid ⟨by simp [dm.timeM, ← HJ.out, HIF.out, HNIL.out, HSda.out, HBW.out, ← HJT.out, HER.out], fun _ => ⟨rfl, rfl⟩, C11.out.sub (by simp)⟩⟩
          | none =>
            have HEN : Hid (eolN (G.T.drop (x + j + jt)) = 0) := Lib.hid (by unfold eolN; rw [HER.out]; rfl)
            go_wp2_with fail
            refine HEO.out.mono ?_
            rintro e wc2 ⟨rfl, hx⟩
            have C10 := hx.out
            rw [HEN.out, Nat.add_zero] at C10
            have C10 := Lib.hid C10
            clear hx HEO
            obtain ⟨r0, r1, k2, k3, k4, k5, k6, kz⟩ := C10.out.cells HG.out
            obtain ⟨st2, hst2⟩ : ∃ st2 : Nat, (x + j + jt) - y = st2 := ⟨_, rfl⟩
            rw [hst2] at k4
            have HST2 := Lib.hid hst2
            clear k5 k6 kz hst2
            go_wp2_with fail
            go_quiet (fail)
            have C11 := Lib.hid (C10.out.drewN nq)
            clear k2 k3 k4
            go_wp2_with fail
            refine (set.mk_notEOL _).mono ?_
            rintro e wa ⟨R, rfl, hR⟩
            have HT := Lib.hid (C11.out.take HG.out hR (But.refl [] _) (by decide))
            clear hR
            go_wp2_with fail
            refine HT.out.mono ?_
            rintro e wb ⟨au, ju, cu, rfl, hx⟩
            have HJU := Lib.hid hx.out.1
            have C12 := Lib.hid hx.out.2.1
            have Hcu := Lib.hid hx.out.2.2
            clear hx HT
            go_wp2_with fail
            refine (new37r _ _).mono ?_
            rintro e we ⟨rfl, hbe, hre⟩
            have HSY := Lib.hid (C12.out.syn HG.out (x + j + jt) (by have := C0.out.from_le; omega) (by omega) hbe _ _ (Nat.le_refl _) hre _ (by rw [HST2.out]))
            clear hbe hre
            go_wp2_with fail
            refine HSY.out.mono ?_
            rintro e wf ⟨v, rfl, hv⟩
            go_wp2_with fail
            go_ret2
            exact .inr (.inr ⟨_, rfl, Lib.hid (hv.1.out.bad (by simp [dm.timeM, ← HJ.out, HIF.out, HNIL.out, HSda.out, HBW.out, ← HJT.out, HER.out, ← HJU.out]))⟩)
  · have hjz : ¬ (j : Int) = 0 := by omega
    have HIF : Hid ((if j = 0 then 5 else 3) = 3) := Lib.hid (if_neg hj0)
    have HNIL : Hid ((G.T.drop x).take j ≠ []) := Lib.hid (fun e => hj0 (by rw [← take_len HJ.out, e]; rfl))
    clear hj0
    have HE := Lib.hid (C2.out.ens HG.out)
    go_wp2_with fail
    refine HE.out.mono ?_
    rintro e we ⟨he, hx⟩
    have C5 := Lib.hid hx.out
    clear hx HE
    obtain ⟨bq5, hbq⟩ : ∃ bq, decide (x + j < G.T.length) = bq := ⟨_, rfl⟩
    rw [hbq] at he
    subst he
    have HBQ5 := Lib.hid hbq
    clear hbq
    cases bq5 with
    | false =>
      have HNO : Hid (G.T[x + j]? = none) := Lib.hid (List.getElem?_eq_none (by have := HBQ5.out; simpa using this))
      obtain ⟨r0, r1, k2, k3, k4, k5, k6, kz⟩ := C5.out.cells HG.out
      have z5 := kz 5
      have C6 := Lib.hid (C5.out.sec HG.out 5 (.int .u8 5) rfl)
      clear k2 k3 k4 k6 kz
      go_wp2_with fail
      go_ret2
      exact .inl ⟨(G.T.drop x).take j, _, _, _, _, _, by rw [take_len HJ.out]; rfl, Lib.hid ⟨by simp [dm.timeM, ← HJ.out, HNO.out, HIF.out], fun e => absurd e HNIL.out, C6.out.sub (by simp)⟩⟩
    | true =>
      obtain ⟨da, hd⟩ : ∃ d, G.T.getD (x + j) 0 = d := ⟨_, rfl⟩
      have HLTda : Hid (x + j < G.T.length) := Lib.hid (by simpa using HBQ5.out)
      have HSda : Hid (G.T[x + j]? = some da) := Lib.hid (by rw [getD_some HLTda.out, hd])
      have HDda := Lib.hid hd
      have hdbda := da.toNat_lt
      clear hd
      go_wp2_with fail
      refine (set.mk_whitespace _).mono ?_
      rintro e wa ⟨R, rfl, hR⟩
      have C6 := Lib.hid (C5.out.made hR)
      obtain ⟨bw, hbw⟩ : ∃ bw, dm.white da = bw := ⟨_, rfl⟩
      have HGT : Hid (∀ q, Calls Tryz.prog 58 #[.pointer (some ⟨R, 0, none⟩), .int .u8 (UInt8.toNat da)] (wa.drewN q) fun e w' => e = .returned (.bool bw) ∧ wa.drewN q = w') := Lib.hid fun q => by
        have := set.get33 R (set.inN 1) da (wa.drewN q) hR.2.1
        rw [set.inN_byte, show dm.inS 1 da = bw from hbw] at this
        exact this
      have HBW := Lib.hid hbw
      have HA := C6.out.at0 HG.out
      rw [HDda.out] at HA
      have HA := Lib.hid HA
      clear hR hbw
      go_wp2_with fail
      refine HA.out.mono ?_
      rintro e wa2 ⟨rfl, qq, rfl⟩
      have C7 := Lib.hid (C6.out.drewN qq)
      clear HA
      go_wp2_with fail
      refine (HGT.out _).mono ?_
      rintro e wb ⟨rfl, rfl⟩
      clear HGT
      cases bw with
      | false =>
        go_wp2_with fail
        refine (set.mk_notEOL _).mono ?_
        rintro e wa ⟨R, rfl, hR⟩
        have HT := Lib.hid (C7.out.take HG.out hR (But.refl [] _) (by decide))
        clear hR
        go_wp2_with fail
        refine HT.out.mono ?_
        rintro e wb ⟨at_, jt, ct, rfl, hx⟩
        have HJT := Lib.hid hx.out.1
        have C8 := Lib.hid hx.out.2.1
        have Hct := Lib.hid hx.out.2.2
        clear hx HT
        go_wp2_with fail
        refine (new37r _ _).mono ?_
        rintro e we ⟨rfl, hbe, hre⟩
        have HSY := Lib.hid (C8.out.syn HG.out x (C0.out.from_le) (by omega) hbe _ _ (Nat.le_refl _) hre _ (by rw [HST.out]))
        clear hbe hre
        go_wp2_with fail
        refine HSY.out.mono ?_
        rintro e wf ⟨v, rfl, hv⟩
        go_wp2_with fail
        go_ret2
        exact .inr (.inr ⟨_, rfl, Lib.hid (hv.1.out.bad (by simp [dm.timeM, ← HJ.out, HIF.out, HSda.out, HBW.out, ← HJT.out]))⟩)
      | true =>
        go_wp2_with fail
        refine (set.mk_fieldSeparatorSpace _).mono ?_
        rintro e wa ⟨R, rfl, hR⟩
        have HT := Lib.hid (C7.out.take HG.out hR (But.refl [] _) (by decide))
        clear hR
        go_wp2_with fail
        refine HT.out.mono ?_
        rintro e wb ⟨at_, jt, ct, rfl, hx⟩
        have HJT := Lib.hid hx.out.1
        have C8 := Lib.hid hx.out.2.1
        have Hct := Lib.hid hx.out.2.2
        clear hx HT
        have HE := Lib.hid (C8.out.ens HG.out)
        go_wp2_with fail
        refine HE.out.mono ?_
        rintro e we ⟨he, hx⟩
        have C9 := Lib.hid hx.out
        clear hx HE
        obtain ⟨bq6, hbq⟩ : ∃ bq, decide (x + j + jt < G.T.length) = bq := ⟨_, rfl⟩
        rw [hbq] at he
        subst he
        have HBQ6 := Lib.hid hbq
        clear hbq
        cases bq6 with
        | false =>
          have HEO : Hid (dm.eol (G.T.drop (x + j + jt)) = some 0) := Lib.hid (by rw [List.drop_eq_nil_of_le (by have := HBQ6.out; simpa using this)]; rfl)
          obtain ⟨r0, r1, k2, k3, k4, k5, k6, kz⟩ := C9.out.cells HG.out
          have z5 := kz 5
          have C10 := Lib.hid (C9.out.sec HG.out 5 (.int .u8 5) rfl)
          clear k2 k3 k4 k6 kz
          go_wp2_with fail
          go_ret2
          exact .inl ⟨(G.T.drop x).take j, _, _, _, _, _, by rw [take_len HJ.out]; rfl, Lib.hid ⟨by simp [dm.timeM, ← HJ.out, HIF.out, HSda.out, HBW.out, ← HJT.out, HEO.out], fun e => absurd e HNIL.out, C10.out.sub (by simp)⟩⟩
        | true =>
          have HEO := C9.out.eol HG.out
          obtain ⟨er, her⟩ : ∃ er, dm.eol (G.T.drop (x + j + jt)) = er := ⟨_, rfl⟩
          rw [her] at HEO
          have HER := Lib.hid her
          have HEO := Lib.hid HEO
          clear her
          cases er with
          | some e0 =>
            have HEN : Hid (eolN (G.T.drop (x + j + jt)) = e0) := Lib.hid (by unfold eolN; rw [HER.out]; rfl)
            go_wp2_with fail
            refine HEO.out.mono ?_
            rintro e wc2 ⟨rfl, hx⟩
            have C10 := hx.out
            rw [HEN.out] at C10
            have C10 := Lib.hid C10
            clear hx HEO
            obtain ⟨r0, r1, k2, k3, k4, k5, k6, kz⟩ := C10.out.cells HG.out
            have z5 := kz 5
            have C11 := Lib.hid (C10.out.sec HG.out 5 (.int .u8 5) rfl)
            clear k2 k3 k4 k6 kz
            go_wp2_with fail
            go_ret2
            exact .inl ⟨(G.T.drop x).take j, _, _, _, _, _, by rw [take_len HJ.out]; rfl, Lib.hid ⟨by simp [dm.timeM, ← HJ.out, HIF.out, HSda.out, HBW.out, ← HJT.out, HER.out], fun e => absurd e HNIL.out, C11.out.sub (by simp)⟩⟩
          | none =>
            have HEN : Hid (eolN (G.T.drop (x + j + jt)) = 0) := Lib.hid (by unfold eolN; rw [HER.out]; rfl)
            go_wp2_with fail
            refine HEO.out.mono ?_
            rintro e wc2 ⟨rfl, hx⟩
            have C10 := hx.out
            rw [HEN.out, Nat.add_zero] at C10
            have C10 := Lib.hid C10
            clear hx HEO
            obtain ⟨r0, r1, k2, k3, k4, k5, k6, kz⟩ := C10.out.cells HG.out
            obtain ⟨st2, hst2⟩ : ∃ st2 : Nat, (x + j + jt) - y = st2 := ⟨_, rfl⟩
            rw [hst2] at k4
            have HST2 := Lib.hid hst2
            clear k5 k6 kz hst2
            go_wp2_with fail
            go_quiet (fail)
            have C11 := Lib.hid (C10.out.drewN nq)
            clear k2 k3 k4
            go_wp2_with fail
            refine (set.mk_notEOL _).mono ?_
            rintro e wa ⟨R, rfl, hR⟩
            have HT := Lib.hid (C11.out.take HG.out hR (But.refl [] _) (by decide))
            clear hR
            go_wp2_with fail
            refine HT.out.mono ?_
            rintro e wb ⟨au, ju, cu, rfl, hx⟩
            have HJU := Lib.hid hx.out.1
            have C12 := Lib.hid hx.out.2.1
            have Hcu := Lib.hid hx.out.2.2
            clear hx HT
            go_wp2_with fail
            refine (new37r _ _).mono ?_
            rintro e we ⟨rfl, hbe, hre⟩
            have HSY := Lib.hid (C12.out.syn HG.out (x + j + jt) (by have := C0.out.from_le; omega) (by omega) hbe _ _ (Nat.le_refl _) hre _ (by rw [HST2.out]))
            clear hbe hre
            go_wp2_with fail
            refine HSY.out.mono ?_
            rintro e wf ⟨v, rfl, hv⟩
            go_wp2_with fail
            go_ret2
            exact .inr (.inr ⟨_, rfl, Lib.hid (hv.1.out.bad (by simp [dm.timeM, ← HJ.out, HIF.out, HSda.out, HBW.out, ← HJT.out, HER.out, ← HJU.out]))⟩)

theorem Ch.next (hG : Base G) (c : Ch false G L0 w0 H x s y n w) (hs : s = 5 ∨ s = 4) :
    Calls Tryz.prog 14 #[.pointer (some ⟨G.D, 0, none⟩)] w fun e w' => e = .returned (.bool (decide ((dm.nextM G.T ⟨x, s, y⟩).at_ < G.T.length))) ∧ Hid (∃ y', Ch false G L0 w0 [] (dm.nextM G.T ⟨x, s, y⟩).at_ 0 y' 1 w') := by
  have HG := Lib.hid hG
  obtain ⟨x1, hx1⟩ : ∃ x1, (if s = 5 then x else lineOff G.T x) = x1 := ⟨_, rfl⟩
  obtain ⟨x2, hx2⟩ : ∃ x2, x1 + dm.passed (G.T.length + 1) (G.T.drop x1) = x2 := ⟨_, rfl⟩
  have hn : (dm.nextM G.T ⟨x, s, y⟩).at_ = x2 := by
    unfold dm.nextM
    simp only []
    rw [← hx2, ← hx1]
    rfl
  rw [hn]
  have HX2 := Lib.hid hx2
  clear hn hx2
  have hend : ∀ (W : World) (Q : Ending → World → Prop), Hid (∃ y1 n1, Ch false G L0 w0 [] x1 5 y1 n1 W) → True := fun _ _ _ => trivial
  clear hend
  rcases hs with rfl | rfl
  · rw [if_pos rfl] at hx1
    subst hx1
    have HA := Lib.hid (c.adv_eq hG)
    have HS := Lib.hid (c.drop.skip hG)
    clear c hG
    go_enter Tryz.func14, Tryz.ntmps14
    go_wp2_with fail
    refine HA.out.mono ?_
    rintro e w1 ⟨rfl, rfl⟩
    clear HA
    go_wp2_with fail
    refine HS.out.mono ?_
    rintro e w2 ⟨rfl, h2⟩
    have C2 := h2.out
    rw [HX2.out] at C2
    have C2 := Lib.hid C2
    clear h2 HS
    obtain ⟨r0, r1, k2, k3, k4, k5, k6, kz⟩ := C2.out.cells HG.out
    have z5 := kz 5
    have C3 := Lib.hid (C2.out.sec HG.out 0 (.int .u8 0) rfl)
    clear k2 k3 k4 k6 kz
    have HE := Lib.hid (C3.out.ens HG.out)
    go_wp2_with fail
    refine HE.out.mono ?_
    rintro e w3 ⟨rfl, h3⟩
    clear HE
    go_wp2_with fail
    go_ret
    exact ⟨rfl, Lib.hid ⟨_, h3.out⟩⟩
  · rw [if_neg (by decide)] at hx1
    have HA := c.adv_45 hG
    rw [hx1] at HA
    have HA := Lib.hid HA
    clear c hG hx1
    go_enter Tryz.func14, Tryz.ntmps14
    go_wp2_with fail
    refine HA.out.mono ?_
    rintro e w1 ⟨rfl, h1⟩
    have HS := Lib.hid (h1.out.skip HG.out)
    clear HA h1
    go_wp2_with fail
    refine HS.out.mono ?_
    rintro e w2 ⟨rfl, h2⟩
    have C2 := h2.out
    rw [HX2.out] at C2
    have C2 := Lib.hid C2
    clear h2 HS
    obtain ⟨r0, r1, k2, k3, k4, k5, k6, kz⟩ := C2.out.cells HG.out
    have z5 := kz 5
    have C3 := Lib.hid (C2.out.sec HG.out 0 (.int .u8 0) rfl)
    clear k2 k3 k4 k6 kz
    have HE := Lib.hid (C3.out.ens HG.out)
    go_wp2_with fail
    refine HE.out.mono ?_
    rintro e w3 ⟨rfl, h3⟩
    clear HE
    go_wp2_with fail
    go_ret
    exact ⟨rfl, Lib.hid ⟨_, h3.out⟩⟩
end
end Go.Proofs.YtlcbcgillekphaaGreatDoor.dec
