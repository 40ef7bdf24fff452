/-
  Proved: the contract of the decoder's NextFieldBytes.
  Conditions: a decoder in memory whose tags have been read.
-/
import Derived.Test.YtlcbcgillekphaaGreatDoorDhe
import Derived.Deep.CutBlock
namespace Go.Proofs.YtlcbcgillekphaaGreatDoor.dec
open Go.RowKit Mem rw
set_option linter.unusedVariables false
set_option linter.unusedSimpArgs false

section
variable {b : Bool} {G : Cfg} {L0 : Lay} {w0 : World} {H : List (Option Addr × List UInt8)} {x s y n : Nat} {w : World}
theorem take_len {P : UInt8 → Bool} {l : List UInt8} {j : Nat} (h : j = dm.runN P l) : (l.take j).length = j := by
  rw [List.length_take]; have := dm.runN_le P l; omega
theorem Held.pre {G : Cfg} {L : Lay} {w : World} {a : Option Addr} {l l' m : List UInt8} (h : Held G L w a l) (e : l = l' ++ m) : Held G L w a l' := by
  subst e
  refine ⟨?_, fun A off ea => ?_⟩
  · rcases h.bytes with ⟨h1, h2⟩ | ⟨A, off, h1, h2⟩
    · exact .inl ⟨h1, (List.append_eq_nil_iff.1 h2).1⟩
    · exact .inr ⟨A, off, h1, fun j x hx => h2 j x (by rw [List.getElem?_append_left (List.getElem?_eq_some_iff.1 hx).1]; exact hx)⟩
  · obtain ⟨h1, h2⟩ := h.loc A off ea
    rw [List.length_append] at h2
    refine ⟨h1, ?_⟩
    rcases h2 with ⟨h3, h4, h5⟩ | ⟨h3, h4⟩ | h3
    · exact .inl ⟨h3, h4, by omega⟩
    · exact .inr (.inl ⟨h3, by omega⟩)
    · exact .inr (.inr h3)
theorem Ch.pre {a : Option Addr} {l l' m : List UInt8} (c : Ch b G L0 w0 ((a, l) :: H) x s y n w) (e : l = l' ++ m) : Ch b G L0 w0 ((a, l') :: H) x s y 0 w := by
  obtain ⟨L, c⟩ := c
  refine ⟨L, c.dl, c.step, c.pos, c.sec, c.frm, c.line, c.sk, c.esc, .inl rfl, fun p hp => ?_⟩
  rcases List.mem_cons.1 hp with h | h
  · rw [h]; exact (c.held (a, l) (by simp)).pre e
  · exact c.held p (by simp [h])
theorem Ch.byteAt {a : Option Addr} {l : List UInt8} (c : Ch b G L0 w0 ((a, l) :: H) x s y n w) {i : Nat} (hi : i < l.length) : ∃ A off, a = some ⟨A, off, none⟩ ∧ w.cell? ⟨A, off + i, none⟩ = some (.int .u8 ((l[i]'hi).toNat : Int)) := by
  obtain ⟨L, c⟩ := c
  exact (c.held (a, l) (by simp)).bytes.get hi
/-- Where a token ends ahead of the text's end, a byte stands that is not of its set. -/
theorem tokL_stop {P : UInt8 → Bool} {r : UInt8 → UInt8} : ∀ (f : Nat) (l : List UInt8), l.length ≤ f → (dm.tokL P r l).2 < l.length → P (l.getD (dm.tokL P r l).2 0) = false
  | 0, l, h, h2 => by omega
  | f + 1, [], h, h2 => by simp at h2
  | f + 1, [c], h, h2 => by
    unfold dm.tokL at h2 ⊢
    split at h2
    · simp at h2
    · rename_i hc
      rw [if_neg hc]
      simp at hc ⊢
      exact hc.2
  | f + 1, c :: d :: t, h, h2 => by
    simp only [List.length_cons] at h
    have h1 := tokL_stop (P := P) (r := r) f (d :: t) (by simp; omega)
    have h3 := tokL_stop (P := P) (r := r) f t (by omega)
    unfold dm.tokL at h2 ⊢
    by_cases h92 : c = 92
    · rw [if_pos h92] at h2 ⊢
      by_cases hd : r d = 0
      · rw [if_pos hd] at h2 ⊢
        simp only [List.length_cons, List.getD_cons_succ] at h2 ⊢
        exact h1 (by simp only [List.length_cons]; omega)
      · rw [if_neg hd] at h2 ⊢
        simp only [List.length_cons, List.getD_cons_succ] at h2 ⊢
        exact h3 (by omega)
    · rw [if_neg h92] at h2 ⊢
      by_cases hp : P c = true
      · rw [if_pos hp] at h2 ⊢
        simp only [List.length_cons, List.getD_cons_succ] at h2 ⊢
        exact h1 (by simp only [List.length_cons]; omega)
      · rw [if_neg hp]
        simpa using hp
theorem tok_stop (k : Nat) (hk : k ≤ 4) (l o : List UInt8) (q : Nat) (h : dm.tok k l = (o, q)) (hq : q < l.length) : dm.inS (dm.setOf k) (l.getD q 0) = false := by
  have := tokL_stop (P := dm.inS (dm.setOf k)) (r := dm.rv k) l.length l (Nat.le_refl _)
  unfold dm.tok at h
  rw [h] at this
  exact this hq
theorem not_num_fin : ∀ x : Fin 256, ¬ (UInt8.ofNat x.val = 45 ∨ UInt8.ofNat x.val = 48 ∨ UInt8.ofNat x.val = 49 ∨ UInt8.ofNat x.val = 50 ∨ UInt8.ofNat x.val = 51 ∨ UInt8.ofNat x.val = 52 ∨ UInt8.ofNat x.val = 53 ∨ UInt8.ofNat x.val = 54 ∨ UInt8.ofNat x.val = 55 ∨ UInt8.ofNat x.val = 56 ∨ UInt8.ofNat x.val = 57 ∨ UInt8.ofNat x.val = 46) → ¬ (UInt8.ofNat x.val = 45 ∨ UInt8.ofNat x.val = 46 ∨ (48 ≤ (UInt8.ofNat x.val).toNat ∧ (UInt8.ofNat x.val).toNat ≤ 57)) := by decide +kernel
theorem not_num (dv : UInt8) (h : ¬ (dv = 45 ∨ dv = 48 ∨ dv = 49 ∨ dv = 50 ∨ dv = 51 ∨ dv = 52 ∨ dv = 53 ∨ dv = 54 ∨ dv = 55 ∨ dv = 56 ∨ dv = 57 ∨ dv = 46)) : ¬ (dv = 45 ∨ dv = 46 ∨ (48 ≤ dv.toNat ∧ dv.toNat ≤ 57)) := by
  have e : dv = UInt8.ofNat (⟨dv.toNat, dv.toNat_lt⟩ : Fin 256).val := by simp
  rw [e] at h ⊢
  exact not_num_fin _ h
def FieldOut (G : Cfg) (L0 : Lay) (w0 : World) (r : dm.Res (List UInt8 × Nat × List UInt8) × dm.M) (e : Ending) (w' : World) : Prop :=
  (∃ (k : List UInt8) (kd : Nat) (u : List UInt8) (x s y : Nat) (a : Option Addr) (c : Nat) (a2 : Option Addr) (c2 : Nat), e = .returned (.tuple #[.slice a k.length c, .int .u8 kd, .slice a2 u.length c2, .nilIface]) ∧ Hid (r = (.some (k, kd, u), ⟨x, s, y⟩) ∧ k ≠ [] ∧ Ch false G L0 w0 [(a2, u), (a, k)] x s y 0 w')) ∨
  (e = .returned (.tuple #[.slice none 0 0, .int .u8 0, .slice none 0 0, .nilIface]) ∧ Hid (∃ x s y, r = (.none, ⟨x, s, y⟩) ∧ Ch false G L0 w0 [] x s y 0 w')) ∨
  (∃ v, e = .returned (.tuple #[.slice none 0 0, .int .u8 0, .slice none 0 0, v]) ∧ Hid (Bad G L0 w0 r w' v))
set_option maxRecDepth 100000 in
theorem Ch.field_no (hG : Base G) (c : Ch false G L0 w0 H x s y n w) (hs : 2 < s) :
    Calls Tryz.prog 31 #[.pointer (some ⟨G.D, 0, none⟩)] w (FieldOut G L0 w0 (dm.fieldM G.T ⟨x, s, y⟩)) := by
  have HA := Lib.hid (c.adv_gt hG 2 hs)
  have HF : Hid (dm.fieldM G.T ⟨x, s, y⟩ = (.none, ⟨x, s, y⟩) ∧ Ch false G L0 w0 [] x s y 0 w) := Lib.hid ⟨by simp [dm.fieldM]; omega, c.sub (by simp)⟩
  clear c hG hs
  go_enter Tryz.func31, Tryz.ntmps31
  go_wp2_with fail
  refine HA.out.mono ?_
  rintro e w1 ⟨rfl, rfl⟩
  go_wp2_with fail
  go_returns
  exact .inr (.inl ⟨rfl, Lib.hid ⟨_, _, _, HF.out.1, HF.out.2⟩⟩)
set_option maxRecDepth 100000 in
set_option maxHeartbeats 4000000 in
theorem Ch.field (hG : Base G) (c : Ch false G L0 w0 H x 2 y n w) :
    Calls Tryz.prog 31 #[.pointer (some ⟨G.D, 0, none⟩)] w (FieldOut G L0 w0 (dm.fieldM G.T ⟨x, 2, y⟩)) := by
  have HG := Lib.hid hG
  have HA := Lib.hid (c.adv_eq hG)
  have C0 := Lib.hid c
  clear c hG
  go_enter Tryz.func31, Tryz.ntmps31
  go_wp2_with fail
  refine HA.out.mono ?_
  rintro e w1 ⟨rfl, rfl⟩
  clear HA
  obtain ⟨o, q, htok⟩ : ∃ o' q', dm.tok 3 (G.T.drop x) = (o', q') := ⟨_, _, rfl⟩
  have HTOK := Lib.hid htok
  clear htok
  go_wp2_with fail
  refine (set.mk_fieldKeyChars _).mono ?_
  rintro e wa ⟨R, rfl, hR⟩
  have HR := Lib.hid hR
  clear hR
  go_wp2_with fail
  refine (esc.esc_at3 _).mono ?_
  rintro e wb ⟨rfl, he, hbe⟩
  have ht := C0.out.esc HG.out 3 (by decide) HR.out he (Nat.le_refl _) (But.ofBelow hbe)
  rw [HTOK.out] at ht
  dsimp only at ht
  obtain ⟨st0, hst⟩ : ∃ st : Nat, x - y = st := ⟨_, rfl⟩
  rw [hst] at ht
  have Hst0 := Lib.hid hst
  have HT := Lib.hid ht
  clear ht he hbe HR hst
  go_wp2_with fail
  refine HT.out.mono ?_
  rintro e wc ⟨a, j, cp, v, rfl, hh⟩
  clear HT
  have HJ := Lib.hid hh.out.1
  rcases hh.out.2 with ⟨hv, rfl, hc⟩ | ⟨hv, hf⟩
  rotate_left
  · have HVF := Lib.hid hv
    have HFL := Lib.hid hf
    obtain ⟨L', hcl, X', Y', ms', rfl, hrest⟩ := hf
    clear hcl hrest hv hh
    go_wp2_with fail
    go_returns
    exact .inr (.inr ⟨_, rfl, Lib.hid (HFL.out.bad (by simp [dm.fieldM, HTOK.out, HVF.out]))⟩)
  have HVV := Lib.hid hv
  have C3 := Lib.hid hc
  clear hv hc hh
  by_cases hj0 : j = 0
  · have hjz : (j : Int) = 0 := by omega
    have HON : Hid (o = []) := Lib.hid (List.eq_nil_of_length_eq_zero (by rw [← HJ.out]; exact hj0))
    clear hj0
    have HE := Lib.hid (C3.out.ens HG.out)
    go_wp2_with fail
    refine HE.out.mono ?_
    rintro e we ⟨he, hx⟩
    have C4 := Lib.hid hx.out
    clear hx HE
    obtain ⟨bq, hbq⟩ : ∃ bq, decide (x + q < G.T.length) = bq := ⟨_, rfl⟩
    rw [hbq] at he
    subst he
    have HBQ := Lib.hid hbq
    clear hbq
    cases bq with
    | true =>
      go_wp2_with fail
      refine (new37r _ _).mono ?_
      rintro e we ⟨rfl, hbe, hre⟩
      have HSY := Lib.hid (C4.out.syn HG.out x (C0.out.from_le) (Nat.le_add_right _ _) hbe _ _ (Nat.le_refl _) hre _ (by rw [Hst0.out]))
      clear hbe hre
      go_wp2_with fail
      refine HSY.out.mono ?_
      rintro e wf ⟨v, rfl, hv⟩
      go_wp2_with fail
      go_returns
      exact .inr (.inr ⟨_, rfl, Lib.hid (hv.1.out.bad (by simp [dm.fieldM, HTOK.out, HVV.out, HON.out]))⟩)
    | false =>
      go_wp2_with fail
      refine (new37r _ _).mono ?_
      rintro e we ⟨rfl, hbe, hre⟩
      have HSY := Lib.hid (C4.out.syn HG.out x (C0.out.from_le) (Nat.le_add_right _ _) hbe _ _ (Nat.le_refl _) hre _ (by rw [Hst0.out]))
      clear hbe hre
      go_wp2_with fail
      refine HSY.out.mono ?_
      rintro e wf ⟨v, rfl, hv⟩
      go_wp2_with fail
      go_returns
      exact .inr (.inr ⟨_, rfl, Lib.hid (hv.1.out.bad (by simp [dm.fieldM, HTOK.out, HVV.out, HON.out]))⟩)
  · have hjz : ¬ (j : Int) = 0 := by omega
    have hjp : (0 : Int) < (j : Int) := by omega
    have HON : Hid (o ≠ []) := Lib.hid (fun e => hj0 (by rw [HJ.out, e]; rfl))
    clear hj0
    have HE := Lib.hid (C3.out.ens HG.out)
    go_wp2_with fail
    refine HE.out.mono ?_
    rintro e we ⟨he, hx⟩
    have C4 := Lib.hid hx.out
    clear hx HE
    obtain ⟨bq, hbq⟩ : ∃ bq, decide (x + q < G.T.length) = bq := ⟨_, rfl⟩
    rw [hbq] at he
    subst he
    have HBQ := Lib.hid hbq
    clear hbq
    cases bq with
    | false =>
      have HNO : Hid (G.T[x + q]? = none) := Lib.hid (List.getElem?_eq_none (by have := HBQ.out; simpa using this))
      obtain ⟨r0, r1, k2, k3, k4, k5, k6, kz⟩ := C4.out.cells HG.out
      obtain ⟨st, hst⟩ : ∃ st : Nat, (x + q) - y = st := ⟨_, rfl⟩
      rw [hst] at k4
      have HST := Lib.hid hst
      have HSY := Lib.hid (fun (Y : Nat) (ms : ByteArray) (w2 : World) (hb : But [] _ w2) (hY : _ ≤ Y) (hr : Rw w2 Y [.string ms] 121) => C4.out.syn HG.out (x + q) (by have := C4.out.from_le; omega) (Nat.le_refl _) hb Y ms hY hr (st : Int) (by rw [HST.out]))
      clear k5 k6 kz hst
      go_wp2_with fail
      go_region_held3 (fun wx => wx.cell? ⟨G.D, 3, none⟩ = some (.int .i64 r1) ∧ wx.cell? ⟨G.D, 2, none⟩ = some (.int .i64 r0)) (first | exact ⟨k3, k2⟩ | exact ⟨d3, d2⟩) (first | (go_at_call 55; (with_reducible refine (new37r _ _).mono ?_); rintro e we ⟨rfl, hbe, hre⟩; have d3 := hbe.cellAt (p := ⟨G.D, 3, none⟩) k3 (by simp); have d2 := hbe.cellAt (p := ⟨G.D, 2, none⟩) k2 (by simp); have HBE := Lib.hid hbe; have HRE := Lib.hid hre; clear hbe hre) | (go_at_call 54; (refine (HSY.out _ _ _ (((But.refl [] _).drew).trans HBE.out) (by exact Nat.le_refl _) HRE.out).mono ?_); rintro e wf ⟨v, rfl, hv, e2, e3⟩; have d3 := e3.trans d3; have d2 := e2.trans d2; clear e2 e3))
      go_wp2_with fail
      go_returns
      exact .inr (.inr ⟨_, rfl, Lib.hid (hv.out.bad (by simp [dm.fieldM, HTOK.out, HVV.out, HON.out, HNO.out]))⟩)
    | true =>
      obtain ⟨d, hd⟩ : ∃ d, G.T.getD (x + q) 0 = d := ⟨_, rfl⟩
      have HLTd : Hid (x + q < G.T.length) := Lib.hid (by simpa using HBQ.out)
      have HSd : Hid (G.T[x + q]? = some d) := Lib.hid (by rw [getD_some HLTd.out, hd])
      have HDd := Lib.hid hd
      have HA := C4.out.at0 HG.out
      rw [hd] at HA
      have HA := Lib.hid HA
      have hdbd := d.toNat_lt
      clear hd
      go_wp2_with fail
      refine HA.out.mono ?_
      rintro e we ⟨rfl, qq, rfl⟩
      clear HA
      have C5 := Lib.hid (C4.out.drewN qq)
      by_cases h61 : d = 61
      · have hz61 : (d.toNat : Int) = 61 := by rw [h61]; rfl
        have hb61 : ((d.toNat : Int) != 61) = false := by rw [hz61]; rfl
        have H61 := Lib.hid h61
        clear h61
        have HV := Lib.hid (C5.out.adv HG.out HLTd.out (by rw [HDd.out]; rw [H61.out]; decide))
        go_wp2_with fail
        refine HV.out.mono ?_
        rintro e we ⟨rfl, hx⟩
        have C6 := Lib.hid hx.out
        clear HV hx
        have HE := Lib.hid (C6.out.ens HG.out)
        go_wp2_with fail
        refine HE.out.mono ?_
        rintro e we ⟨he, hx⟩
        have C7 := Lib.hid hx.out
        clear hx HE
        obtain ⟨bq2, hbq⟩ : ∃ bq, decide (x + q + 1 < G.T.length) = bq := ⟨_, rfl⟩
        rw [hbq] at he
        subst he
        have HBQ2 := Lib.hid hbq
        clear hbq
        cases bq2 with
        | false =>
          have HNO : Hid (G.T[x + q + 1]? = none) := Lib.hid (List.getElem?_eq_none (by have := HBQ2.out; simpa using this))
          obtain ⟨r0, r1, k2, k3, k4, k5, k6, kz⟩ := C7.out.cells HG.out
          obtain ⟨st, hst⟩ : ∃ st : Nat, (x + q + 1) - y = st := ⟨_, rfl⟩
          rw [hst] at k4
          have HST := Lib.hid hst
          have HSY := Lib.hid (fun (Y : Nat) (ms : ByteArray) (w2 : World) (hb : But [] _ w2) (hY : _ ≤ Y) (hr : Rw w2 Y [.string ms] 121) => C7.out.syn HG.out (x + q + 1) (by have := C7.out.from_le; omega) (Nat.le_refl _) hb Y ms hY hr (st : Int) (by rw [HST.out]))
          clear k5 k6 kz hst
          go_wp2_with fail
          go_region_held3 (fun wx => wx.cell? ⟨G.D, 3, none⟩ = some (.int .i64 r1) ∧ wx.cell? ⟨G.D, 2, none⟩ = some (.int .i64 r0)) (first | exact ⟨k3, k2⟩ | exact ⟨d3, d2⟩) (first | (go_at_call 55; (with_reducible refine (new37r _ _).mono ?_); rintro e we ⟨rfl, hbe, hre⟩; have d3 := hbe.cellAt (p := ⟨G.D, 3, none⟩) k3 (by simp); have d2 := hbe.cellAt (p := ⟨G.D, 2, none⟩) k2 (by simp); have HBE := Lib.hid hbe; have HRE := Lib.hid hre; clear hbe hre) | (go_at_call 54; (refine (HSY.out _ _ _ (((But.refl [] _).drew).trans HBE.out) (by exact Nat.le_refl _) HRE.out).mono ?_); rintro e wf ⟨v, rfl, hv, e2, e3⟩; have d3 := e3.trans d3; have d2 := e2.trans d2; clear e2 e3))
          go_wp2_with fail
          go_returns
          exact .inr (.inr ⟨_, rfl, Lib.hid (hv.out.bad (by simp [dm.fieldM, HTOK.out, HVV.out, HON.out, HSd.out, H61.out, dm.valueM, HNO.out]))⟩)
        | true =>
          obtain ⟨dv, hd⟩ : ∃ d, G.T.getD (x + q + 1) 0 = d := ⟨_, rfl⟩
          have HLTdv : Hid (x + q + 1 < G.T.length) := Lib.hid (by simpa using HBQ2.out)
          have HSdv : Hid (G.T[x + q + 1]? = some dv) := Lib.hid (by rw [getD_some HLTdv.out, hd])
          have HDdv := Lib.hid hd
          have HA := C7.out.at0 HG.out
          rw [hd] at HA
          have HA := Lib.hid HA
          have hdbdv := dv.toNat_lt
          clear hd
          go_wp2_with fail
          refine HA.out.mono ?_
          rintro e we ⟨rfl, qq, rfl⟩
          clear HA
          have C8 := Lib.hid (C7.out.drewN qq)
          go_upto_block 0 with fail
          go_cut [11, 12] from 15 to 243 (fun s11 s12 wx => ∃ (kd : Nat) (u : List UInt8) (x2 : Nat) (a2 : Option Addr) (n2 c2 : Nat), s11 = .slice a2 n2 c2 ∧ s12 = .int .u8 kd ∧ Hid (n2 = u.length ∧ dm.valueM G.T ⟨x + q + 1, 2, y⟩ = (.inr (kd, u), ⟨x2, 2, y⟩) ∧ Ch false G L0 w0 ((a2, u) :: (a, o) :: H) x2 2 y 0 wx))
          case first =>
            by_cases h34 : dv = 34
            · have hz : (dv.toNat : Int) = 34 := by rw [h34]; rfl
              have H34 := Lib.hid h34
              clear h34
              have HV := Lib.hid (C8.out.adv HG.out HLTdv.out (by rw [HDdv.out]; rw [H34.out]; decide))
              go_wp2_with fail
              refine HV.out.mono ?_
              rintro e we ⟨rfl, hx⟩
              have C9 := Lib.hid hx.out
              clear HV hx
              obtain ⟨o2, q2, htok⟩ : ∃ o' q', dm.tok 4 (G.T.drop (x + q + 1 + 1)) = (o', q') := ⟨_, _, rfl⟩
              have HTOK2 := Lib.hid htok
              clear htok
              go_wp2_with fail
              refine (set.mk_fieldStringValChars _).mono ?_
              rintro e wa ⟨R, rfl, hR⟩
              have HR := Lib.hid hR
              clear hR
              go_wp2_with fail
              refine (esc.esc_at4 _).mono ?_
              rintro e wb ⟨rfl, he, hbe⟩
              have ht := C9.out.esc HG.out 4 (by decide) HR.out he (Nat.le_refl _) (But.ofBelow hbe)
              rw [HTOK2.out] at ht
              dsimp only at ht
              obtain ⟨st1, hst⟩ : ∃ st : Nat, (x + q + 1 + 1) - y = st := ⟨_, rfl⟩
              rw [hst] at ht
              have Hst1 := Lib.hid hst
              have HT := Lib.hid ht
              clear ht he hbe HR hst
              go_wp2_with fail
              refine HT.out.mono ?_
              rintro e wc ⟨a2, j2, cp2, v, rfl, hh⟩
              clear HT
              have HJ2 := Lib.hid hh.out.1
              rcases hh.out.2 with ⟨hv, rfl, hc⟩ | ⟨hv, hf⟩
              rotate_left
              · have HVF := Lib.hid hv
                have HFL := Lib.hid hf
                obtain ⟨L', hcl, X', Y', ms', rfl, hrest⟩ := hf
                clear hcl hrest hv hh
                go_wp2_with fail
                go_returns
                exact .inr (.inr ⟨_, rfl, Lib.hid (HFL.out.bad (by simp [dm.fieldM, HTOK.out, HVV.out, HON.out, HSd.out, H61.out, dm.valueM, HSdv.out, H34.out, HTOK2.out, HVF.out]))⟩)
              have HVV2 := Lib.hid hv
              have C10 := Lib.hid hc
              clear hv hc hh
              have HE := Lib.hid (C10.out.ens HG.out)
              go_wp2_with fail
              refine HE.out.mono ?_
              rintro e we ⟨he, hx⟩
              have C11 := Lib.hid hx.out
              clear hx HE
              obtain ⟨bq4, hbq⟩ : ∃ bq, decide (x + q + 1 + 1 + q2 < G.T.length) = bq := ⟨_, rfl⟩
              rw [hbq] at he
              subst he
              have HBQ4 := Lib.hid hbq
              clear hbq
              obtain ⟨st2, hst2⟩ : ∃ st2 : Nat, (x + q + 1) - y = st2 := ⟨_, rfl⟩
              have hw1 : IntKind.i64.wrap ((st1 : Int) - 1) = (st2 : Int) := by
                have h1 := Hst1.out
                have h2 := C0.out.from_le
                have h3 := C11.out.le
                have h4 := HG.out.tlen
                rw [IntKind.wrap_i64]; omega
              have HST2 := Lib.hid hst2
              clear hst2
              cases bq4 with
              | false =>
                have HGE : Hid (G.T.length ≤ x + q + 1 + 1 + q2) := Lib.hid (by have := HBQ4.out; simpa using this)
                go_wp2_with fail
                refine (new37r _ _).mono ?_
                rintro e we ⟨rfl, hbe, hre⟩
                have HSY := Lib.hid (C11.out.syn HG.out (x + q + 1) (by have := C0.out.from_le; omega) (by omega) hbe _ _ (Nat.le_refl _) hre _ (by rw [HST2.out]))
                clear hbe hre
                go_wp2_with fail
                refine HSY.out.mono ?_
                rintro e wf ⟨v, rfl, hv⟩
                go_wp2_with fail
                go_returns
                exact .inr (.inr ⟨_, rfl, Lib.hid (hv.1.out.bad (by simp [dm.fieldM, HTOK.out, HVV.out, HON.out, HSd.out, H61.out, dm.valueM, HSdv.out, H34.out, HTOK2.out, HVV2.out, HGE.out]))⟩)
              | true =>
                have HGE : Hid (¬ G.T.length ≤ x + q + 1 + 1 + q2) := Lib.hid (by have := HBQ4.out; simpa using this)
                obtain ⟨dq, hd⟩ : ∃ d, G.T.getD (x + q + 1 + 1 + q2) 0 = d := ⟨_, rfl⟩
                have HLTdq : Hid (x + q + 1 + 1 + q2 < G.T.length) := Lib.hid (by simpa using HBQ4.out)
                have HSdq : Hid (G.T[x + q + 1 + 1 + q2]? = some dq) := Lib.hid (by rw [getD_some HLTdq.out, hd])
                have HDdq := Lib.hid hd
                have HA := C11.out.at0 HG.out
                rw [hd] at HA
                have HA := Lib.hid HA
                have hdbdq := dq.toNat_lt
                clear hd
                go_wp2_with fail
                refine HA.out.mono ?_
                rintro e we ⟨rfl, qq, rfl⟩
                clear HA
                have C12 := Lib.hid (C11.out.drewN qq)
                have hq34 : dq = 34 := by
                  have := tok_stop 4 (by decide) (G.T.drop (x + q + 1 + 1)) o2 q2 HTOK2.out (by have := HLTdq.out; rw [List.length_drop]; omega)
                  rw [show (G.T.drop (x + q + 1 + 1)).getD q2 0 = dq by rw [← HDdq.out]; simp [List.getD_eq_getElem?_getD, List.getElem?_drop]] at this
                  simp [dm.setOf, dm.inS] at this
                  exact UInt8.toNat_inj.1 this
                have hzq : (dq.toNat : Int) = 34 := by rw [hq34]; rfl
                have HQ34 := Lib.hid hq34
                clear hq34
                have HV := Lib.hid (C12.out.adv HG.out HLTdq.out (by rw [HDdq.out]; rw [HQ34.out]; decide))
                go_wp2_with fail
                refine HV.out.mono ?_
                rintro e we ⟨rfl, hx⟩
                have C13 := Lib.hid hx.out
                clear HV hx
                go_wp2_with fail
                go_meet
                exact ⟨1, o2, x + q + 1 + 1 + q2 + 1, a2, j2, cp2, rfl, rfl, Lib.hid ⟨HJ2.out, by simp [dm.valueM, HSdv.out, H34.out, HTOK2.out, HVV2.out, HGE.out], C13.out.sub (by simp)⟩⟩
            · have hz34 : ¬ (dv.toNat : Int) = 34 := fun e => h34 (UInt8.toNat_inj.1 (by show dv.toNat = 34; omega))
              have HN34 : Hid (dv ≠ 34) := Lib.hid h34
              clear h34
              by_cases hT : dv = 116 ∨ dv = 84 ∨ dv = 102 ∨ dv = 70
              · rcases hT with hv | hv | hv | hv
                · have hz : (dv.toNat : Int) = 116 := by rw [hv]; rfl
                  have HV := Lib.hid hv
                  clear hv
                  go_wp2_with fail
                  refine (set.mk_fieldValChars _).mono ?_
                  rintro e wa ⟨R, rfl, hR⟩
                  have HT := Lib.hid (C8.out.take HG.out hR (But.refl [] _) (by decide))
                  clear hR
                  go_wp2_with fail
                  refine HT.out.mono ?_
                  rintro e wb ⟨at_, jt, ct, rfl, hx⟩
                  have HJT := Lib.hid hx.out.1
                  have C9 := Lib.hid hx.out.2.1
                  have Hct := Lib.hid hx.out.2.2
                  clear hx HT
                  go_wp2_with fail
                  go_meet
                  exact ⟨5, (G.T.drop (x + q + 1)).take jt, x + q + 1 + jt, at_, jt, ct, rfl, rfl, Lib.hid ⟨(take_len HJT.out).symm, by simp [dm.valueM, HSdv.out, HV.out, ← HJT.out], C9.out.sub (by simp)⟩⟩
                · have hz : (dv.toNat : Int) = 84 := by rw [hv]; rfl
                  have HV := Lib.hid hv
                  clear hv
                  go_wp2_with fail
                  refine (set.mk_fieldValChars _).mono ?_
                  rintro e wa ⟨R, rfl, hR⟩
                  have HT := Lib.hid (C8.out.take HG.out hR (But.refl [] _) (by decide))
                  clear hR
                  go_wp2_with fail
                  refine HT.out.mono ?_
                  rintro e wb ⟨at_, jt, ct, rfl, hx⟩
                  have HJT := Lib.hid hx.out.1
                  have C9 := Lib.hid hx.out.2.1
                  have Hct := Lib.hid hx.out.2.2
                  clear hx HT
                  go_wp2_with fail
                  go_meet
                  exact ⟨5, (G.T.drop (x + q + 1)).take jt, x + q + 1 + jt, at_, jt, ct, rfl, rfl, Lib.hid ⟨(take_len HJT.out).symm, by simp [dm.valueM, HSdv.out, HV.out, ← HJT.out], C9.out.sub (by simp)⟩⟩
                · have hz : (dv.toNat : Int) = 102 := by rw [hv]; rfl
                  have HV := Lib.hid hv
                  clear hv
                  go_wp2_with fail
                  refine (set.mk_fieldValChars _).mono ?_
                  rintro e wa ⟨R, rfl, hR⟩
                  have HT := Lib.hid (C8.out.take HG.out hR (But.refl [] _) (by decide))
                  clear hR
                  go_wp2_with fail
                  refine HT.out.mono ?_
                  rintro e wb ⟨at_, jt, ct, rfl, hx⟩
                  have HJT := Lib.hid hx.out.1
                  have C9 := Lib.hid hx.out.2.1
                  have Hct := Lib.hid hx.out.2.2
                  clear hx HT
                  go_wp2_with fail
                  go_meet
                  exact ⟨5, (G.T.drop (x + q + 1)).take jt, x + q + 1 + jt, at_, jt, ct, rfl, rfl, Lib.hid ⟨(take_len HJT.out).symm, by simp [dm.valueM, HSdv.out, HV.out, ← HJT.out], C9.out.sub (by simp)⟩⟩
                · have hz : (dv.toNat : Int) = 70 := by rw [hv]; rfl
                  have HV := Lib.hid hv
                  clear hv
                  go_wp2_with fail
                  refine (set.mk_fieldValChars _).mono ?_
                  rintro e wa ⟨R, rfl, hR⟩
                  have HT := Lib.hid (C8.out.take HG.out hR (But.refl [] _) (by decide))
                  clear hR
                  go_wp2_with fail
                  refine HT.out.mono ?_
                  rintro e wb ⟨at_, jt, ct, rfl, hx⟩
                  have HJT := Lib.hid hx.out.1
                  have C9 := Lib.hid hx.out.2.1
                  have Hct := Lib.hid hx.out.2.2
                  clear hx HT
                  go_wp2_with fail
                  go_meet
                  exact ⟨5, (G.T.drop (x + q + 1)).take jt, x + q + 1 + jt, at_, jt, ct, rfl, rfl, Lib.hid ⟨(take_len HJT.out).symm, by simp [dm.valueM, HSdv.out, HV.out, ← HJT.out], C9.out.sub (by simp)⟩⟩
              · have hz1 : ¬ (dv.toNat : Int) = 116 := fun e => hT (.inl (UInt8.toNat_inj.1 (by show dv.toNat = 116; omega)))
                have hz2 : ¬ (dv.toNat : Int) = 84 := fun e => hT (.inr (.inl (UInt8.toNat_inj.1 (by show dv.toNat = 84; omega))))
                have hz3 : ¬ (dv.toNat : Int) = 102 := fun e => hT (.inr (.inr (.inl (UInt8.toNat_inj.1 (by show dv.toNat = 102; omega)))))
                have hz4 : ¬ (dv.toNat : Int) = 70 := fun e => hT (.inr (.inr (.inr (UInt8.toNat_inj.1 (by show dv.toNat = 70; omega)))))
                have HNT := Lib.hid hT
                clear hT
                by_cases hNU : dv = 45 ∨ dv = 48 ∨ dv = 49 ∨ dv = 50 ∨ dv = 51 ∨ dv = 52 ∨ dv = 53 ∨ dv = 54 ∨ dv = 55 ∨ dv = 56 ∨ dv = 57 ∨ dv = 46
                · have HNM : Hid (dv = 45 ∨ dv = 46 ∨ (48 ≤ dv.toNat ∧ dv.toNat ≤ 57)) := Lib.hid (by rcases hNU with h | h | h | h | h | h | h | h | h | h | h | h <;> subst h <;> decide)
                  have H9 : Hid (dm.inS 9 dv = true) := Lib.hid (by rcases hNU with h | h | h | h | h | h | h | h | h | h | h | h <;> subst h <;> decide)
                  have HNU := Lib.hid hNU
                  clear hNU
                  go_upto_if 157 with fail
                  go_cut [157] from 158 to 169 (fun s157 wx => s157 = .bool true ∧ Hid (Ch false G L0 w0 ((a, o) :: H) (x + q + 1) 2 y 1 wx))
                  case first =>
                    rcases HNU.out with hv | hv | hv | hv | hv | hv | hv | hv | hv | hv | hv | hv
                    · have hz : (dv.toNat : Int) = 45 := by rw [hv]; rfl
                      have hb : ((dv.toNat : Int) == 45) = true := by rw [hz]; rfl
                      clear hv
                      go_wp2_with fail
                      go_meet
                      exact ⟨by first | rfl | rw [hb], C8⟩
                    · have hz : (dv.toNat : Int) = 48 := by rw [hv]; rfl
                      have hb : ((dv.toNat : Int) == 45) = false := by rw [hz]; rfl
                      clear hv
                      go_wp2_with fail
                      go_meet
                      exact ⟨by first | rfl | rw [hb], C8⟩
                    · have hz : (dv.toNat : Int) = 49 := by rw [hv]; rfl
                      have hb : ((dv.toNat : Int) == 45) = false := by rw [hz]; rfl
                      clear hv
                      go_wp2_with fail
                      go_meet
                      exact ⟨by first | rfl | rw [hb], C8⟩
                    · have hz : (dv.toNat : Int) = 50 := by rw [hv]; rfl
                      have hb : ((dv.toNat : Int) == 45) = false := by rw [hz]; rfl
                      clear hv
                      go_wp2_with fail
                      go_meet
                      exact ⟨by first | rfl | rw [hb], C8⟩
                    · have hz : (dv.toNat : Int) = 51 := by rw [hv]; rfl
                      have hb : ((dv.toNat : Int) == 45) = false := by rw [hz]; rfl
                      clear hv
                      go_wp2_with fail
                      go_meet
                      exact ⟨by first | rfl | rw [hb], C8⟩
                    · have hz : (dv.toNat : Int) = 52 := by rw [hv]; rfl
                      have hb : ((dv.toNat : Int) == 45) = false := by rw [hz]; rfl
                      clear hv
                      go_wp2_with fail
                      go_meet
                      exact ⟨by first | rfl | rw [hb], C8⟩
                    · have hz : (dv.toNat : Int) = 53 := by rw [hv]; rfl
                      have hb : ((dv.toNat : Int) == 45) = false := by rw [hz]; rfl
                      clear hv
                      go_wp2_with fail
                      go_meet
                      exact ⟨by first | rfl | rw [hb], C8⟩
                    · have hz : (dv.toNat : Int) = 54 := by rw [hv]; rfl
                      have hb : ((dv.toNat : Int) == 45) = false := by rw [hz]; rfl
                      clear hv
                      go_wp2_with fail
                      go_meet
                      exact ⟨by first | rfl | rw [hb], C8⟩
                    · have hz : (dv.toNat : Int) = 55 := by rw [hv]; rfl
                      have hb : ((dv.toNat : Int) == 45) = false := by rw [hz]; rfl
                      clear hv
                      go_wp2_with fail
                      go_meet
                      exact ⟨by first | rfl | rw [hb], C8⟩
                    · have hz : (dv.toNat : Int) = 56 := by rw [hv]; rfl
                      have hb : ((dv.toNat : Int) == 45) = false := by rw [hz]; rfl
                      clear hv
                      go_wp2_with fail
                      go_meet
                      exact ⟨by first | rfl | rw [hb], C8⟩
                    · have hz : (dv.toNat : Int) = 57 := by rw [hv]; rfl
                      have hb : ((dv.toNat : Int) == 45) = false := by rw [hz]; rfl
                      clear hv
                      go_wp2_with fail
                      go_meet
                      exact ⟨by first | rfl | rw [hb], C8⟩
                    · have hz : (dv.toNat : Int) = 46 := by rw [hv]; rfl
                      have hb : ((dv.toNat : Int) == 45) = false := by rw [hz]; rfl
                      clear hv
                      go_wp2_with fail
                      go_meet
                      exact ⟨by first | rfl | rw [hb], C8⟩
                  case rest =>
                    obtain ⟨rfl, hC8⟩ := hcut
                    have C8' := Lib.hid hC8.out
                    clear hC8
                    go_wp2_with fail
                    refine (set.mk_fieldValChars _).mono ?_
                    rintro e wa ⟨R, rfl, hR⟩
                    have HT := Lib.hid (C8'.out.take HG.out hR (But.refl [] _) (by decide))
                    clear hR
                    go_wp2_with fail
                    refine HT.out.mono ?_
                    rintro e wb ⟨at_, jt, ct, rfl, hx⟩
                    have HJT := Lib.hid hx.out.1
                    have C9 := Lib.hid hx.out.2.1
                    have Hct := Lib.hid hx.out.2.2
                    clear hx HT
                    obtain ⟨jm, hjm⟩ : ∃ jm, jt = jm + 1 := by
                      refine ⟨jt - 1, ?_⟩
                      have h1 := HJT.out
                      rw [drop_at HLTdv.out, HDdv.out] at h1
                      unfold dm.runN at h1
                      rw [List.takeWhile_cons_of_pos H9.out] at h1
                      simp at h1
                      omega
                    have hraw := take_len HJT.out
                    obtain ⟨A, off, rfl, hcell⟩ := C9.out.byteAt (i := jm) (by rw [hraw]; omega)
                    obtain ⟨dl, hdl⟩ : ∃ dl, ((G.T.drop (x + q + 1)).take jt)[jm]'(by rw [hraw]; omega) = dl := ⟨_, rfl⟩
                    rw [hdl] at hcell
                    have hdlb := dl.toNat_lt
                    have hw1 : IntKind.i64.wrap ((jt : Int) - 1) = (jm : Int) := by
                      have h3 := C9.out.le
                      have h4 := HG.out.tlen
                      rw [IntKind.wrap_i64]; omega
                    have hj0 : (0 : Int) ≤ (jm : Int) := by omega
                    have hjl : (jm : Int) < (jt : Int) := by omega
                    have hjc : (jm : Int) ≤ (ct : Int) := by have := Hct.out; omega
                    have hc0 : ¬ ct = 0 := by have := Hct.out; omega
                    have HLAST : Hid (((G.T.drop (x + q + 1)).take jt).getLast? = some dl) := Lib.hid (by
                      rw [List.getLast?_eq_getElem?, hraw, show jt - 1 = jm by omega, List.getElem?_eq_getElem (by rw [hraw]; omega), hdl])
                    have HDROP : Hid (((G.T.drop (x + q + 1)).take jt).dropLast = (G.T.drop (x + q + 1)).take jm) := Lib.hid (by
                      rw [List.dropLast_eq_take, hraw, List.take_take, show min (jt - 1) jt = jm by omega])
                    have HLM : Hid (((G.T.drop (x + q + 1)).take jm).length = jm) := Lib.hid (by
                      rw [List.length_take] at hraw ⊢; omega)
                    have HSPL : Hid ((G.T.drop (x + q + 1)).take jt = (G.T.drop (x + q + 1)).take jm ++ [dl]) := Lib.hid (by
                      have h1 := HDROP.out
                      have hne : (G.T.drop (x + q + 1)).take jt ≠ [] := fun e => by rw [e] at hraw; simp at hraw; omega
                      have h2 := List.dropLast_concat_getLast hne
                      have h3 : ((G.T.drop (x + q + 1)).take jt).getLast hne = dl := by
                        have := HLAST.out
                        rw [List.getLast?_eq_some_getLast hne] at this
                        exact Option.some.inj this
                      rw [h1, h3] at h2
                      exact h2.symm)
                    have HRAW := Lib.hid hraw
                    clear hjm hdl hraw
                    by_cases hl : dl = 105
                    · have hz : (dl.toNat : Int) = 105 := by rw [hl]; rfl
                      have HV := Lib.hid hl
                      clear hl
                      go_wp2_with fail
                      go_meet
                      exact ⟨2, (G.T.drop (x + q + 1)).take jm, x + q + 1 + jt, some ⟨A, off, none⟩, jm, ct, rfl, rfl, Lib.hid ⟨HLM.out.symm, by simp [dm.valueM, HSdv.out, HN34.out, HNT.out, HNM.out, ← HJT.out, HLAST.out, HV.out, HDROP.out], C9.out.pre HSPL.out⟩⟩
                    · have hz105 : ¬ (dl.toNat : Int) = 105 := fun e => hl (UInt8.toNat_inj.1 (by show dl.toNat = 105; omega))
                      have HN105 : Hid (dl ≠ 105) := Lib.hid hl
                      clear hl
                      by_cases hl : dl = 117
                      · have hz : (dl.toNat : Int) = 117 := by rw [hl]; rfl
                        have HV := Lib.hid hl
                        clear hl
                        go_wp2_with fail
                        go_meet
                        exact ⟨3, (G.T.drop (x + q + 1)).take jm, x + q + 1 + jt, some ⟨A, off, none⟩, jm, ct, rfl, rfl, Lib.hid ⟨HLM.out.symm, by simp [dm.valueM, HSdv.out, HN34.out, HNT.out, HNM.out, ← HJT.out, HLAST.out, HV.out, HDROP.out], C9.out.pre HSPL.out⟩⟩
                      · have hz117 : ¬ (dl.toNat : Int) = 117 := fun e => hl (UInt8.toNat_inj.1 (by show dl.toNat = 117; omega))
                        have HN117 : Hid (dl ≠ 117) := Lib.hid hl
                        clear hl
                        go_wp2_with fail
                        go_meet
                        exact ⟨4, (G.T.drop (x + q + 1)).take jt, x + q + 1 + jt, some ⟨A, off, none⟩, jt, ct, rfl, rfl, Lib.hid ⟨HRAW.out.symm, by simp [dm.valueM, HSdv.out, HN34.out, HNT.out, HNM.out, ← HJT.out, HLAST.out, HN105.out, HN117.out], C9.out.sub (by simp)⟩⟩
                · have HNM : Hid (¬ (dv = 45 ∨ dv = 46 ∨ (48 ≤ dv.toNat ∧ dv.toNat ≤ 57))) := Lib.hid (not_num dv hNU)
                  have hyy : ∀ v : UInt8, dv = v → ¬ (v = 45 ∨ v = 48 ∨ v = 49 ∨ v = 50 ∨ v = 51 ∨ v = 52 ∨ v = 53 ∨ v = 54 ∨ v = 55 ∨ v = 56 ∨ v = 57 ∨ v = 46) := fun v e => e ▸ hNU
                  have hy45 : ¬ (dv.toNat : Int) = 45 := fun e => hyy 45 (UInt8.toNat_inj.1 (by show dv.toNat = 45; omega)) (by decide)
                  have hy48 : ¬ (dv.toNat : Int) = 48 := fun e => hyy 48 (UInt8.toNat_inj.1 (by show dv.toNat = 48; omega)) (by decide)
                  have hy49 : ¬ (dv.toNat : Int) = 49 := fun e => hyy 49 (UInt8.toNat_inj.1 (by show dv.toNat = 49; omega)) (by decide)
                  have hy50 : ¬ (dv.toNat : Int) = 50 := fun e => hyy 50 (UInt8.toNat_inj.1 (by show dv.toNat = 50; omega)) (by decide)
                  have hy51 : ¬ (dv.toNat : Int) = 51 := fun e => hyy 51 (UInt8.toNat_inj.1 (by show dv.toNat = 51; omega)) (by decide)
                  have hy52 : ¬ (dv.toNat : Int) = 52 := fun e => hyy 52 (UInt8.toNat_inj.1 (by show dv.toNat = 52; omega)) (by decide)
                  have hy53 : ¬ (dv.toNat : Int) = 53 := fun e => hyy 53 (UInt8.toNat_inj.1 (by show dv.toNat = 53; omega)) (by decide)
                  have hy54 : ¬ (dv.toNat : Int) = 54 := fun e => hyy 54 (UInt8.toNat_inj.1 (by show dv.toNat = 54; omega)) (by decide)
                  have hy55 : ¬ (dv.toNat : Int) = 55 := fun e => hyy 55 (UInt8.toNat_inj.1 (by show dv.toNat = 55; omega)) (by decide)
                  have hy56 : ¬ (dv.toNat : Int) = 56 := fun e => hyy 56 (UInt8.toNat_inj.1 (by show dv.toNat = 56; omega)) (by decide)
                  have hy57 : ¬ (dv.toNat : Int) = 57 := fun e => hyy 57 (UInt8.toNat_inj.1 (by show dv.toNat = 57; omega)) (by decide)
                  have hy46 : ¬ (dv.toNat : Int) = 46 := fun e => hyy 46 (UInt8.toNat_inj.1 (by show dv.toNat = 46; omega)) (by decide)
                  clear hNU hyy
                  obtain ⟨r0, r1, k2, k3, k4, k5, k6, kz⟩ := C8.out.cells HG.out
                  obtain ⟨st, hst⟩ : ∃ st : Nat, (x + q + 1) - y = st := ⟨_, rfl⟩
                  rw [hst] at k4
                  have HST := Lib.hid hst
                  have HSY := Lib.hid (fun (Y : Nat) (ms : ByteArray) (w2 : World) (hb : But [] _ w2) (hY : _ ≤ Y) (hr : Rw w2 Y [.string ms] 121) => C8.out.syn HG.out (x + q + 1) (by have := C8.out.from_le; omega) (Nat.le_refl _) hb Y ms hY hr (st : Int) (by rw [HST.out]))
                  clear k5 k6 kz hst
                  go_wp2_with fail
                  go_region_held3 (fun wx => wx.cell? ⟨G.D, 3, none⟩ = some (.int .i64 r1) ∧ wx.cell? ⟨G.D, 2, none⟩ = some (.int .i64 r0)) (first | exact ⟨k3, k2⟩ | exact ⟨d3, d2⟩) (first | (go_at_call 55; (with_reducible refine (new37r _ _).mono ?_); rintro e we ⟨rfl, hbe, hre⟩; have d3 := hbe.cellAt (p := ⟨G.D, 3, none⟩) k3 (by simp); have d2 := hbe.cellAt (p := ⟨G.D, 2, none⟩) k2 (by simp); have HBE := Lib.hid hbe; have HRE := Lib.hid hre; clear hbe hre) | (go_at_call 54; (refine (HSY.out _ _ _ (((But.refl [] _).drew).trans HBE.out) (by exact Nat.le_refl _) HRE.out).mono ?_); rintro e wf ⟨v, rfl, hv, e2, e3⟩; have d3 := e3.trans d3; have d2 := e2.trans d2; clear e2 e3))
                  go_wp2_with fail
                  go_returns
                  exact .inr (.inr ⟨_, rfl, Lib.hid (hv.out.bad (by simp [dm.fieldM, HTOK.out, HVV.out, HON.out, HSd.out, H61.out, dm.valueM, HSdv.out, HN34.out, HNT.out, HNM.out]))⟩)
          case rest =>
            obtain ⟨kd, u, x2, a2, n2, c2, rfl, rfl, hcc⟩ := hcut
            have HN2 := Lib.hid hcc.out.1
            have HVAL := Lib.hid hcc.out.2.1
            have C9 := Lib.hid hcc.out.2.2
            clear hcc
            have HE := Lib.hid (C9.out.ens HG.out)
            go_wp2_with fail
            refine HE.out.mono ?_
            rintro e we ⟨he, hx⟩
            have C10 := Lib.hid hx.out
            clear hx HE
            obtain ⟨bq5, hbq⟩ : ∃ bq, decide (x2 < G.T.length) = bq := ⟨_, rfl⟩
            rw [hbq] at he
            subst he
            have HBQ5 := Lib.hid hbq
            clear hbq
            cases bq5 with
            | false =>
              have HNO : Hid (G.T[x2]? = none) := Lib.hid (List.getElem?_eq_none (by have := HBQ5.out; simpa using this))
              obtain ⟨r0, r1, k2, k3, k4, k5, k6, kz⟩ := C10.out.cells HG.out
              have z5 := kz 5
              have C11 := Lib.hid (C10.out.sec HG.out 5 (.int .u8 5) rfl)
              clear k2 k3 k4 k6 kz
              go_wp2_with fail
              go_returns
              exact .inl ⟨o, kd, u, _, _, _, a, _, a2, _, by rw [HJ.out, HN2.out], Lib.hid ⟨by simp [dm.fieldM, HTOK.out, HVV.out, HON.out, HSd.out, H61.out, HVAL.out, dm.afterM, HNO.out], HON.out, C11.out.sub (by simp)⟩⟩
            | true =>
              obtain ⟨da, hd⟩ : ∃ d, G.T.getD (x2) 0 = d := ⟨_, rfl⟩
              have HLTda : Hid (x2 < G.T.length) := Lib.hid (by simpa using HBQ5.out)
              have HSda : Hid (G.T[x2]? = some da) := Lib.hid (by rw [getD_some HLTda.out, hd])
              have HDda := Lib.hid hd
              have HA := C10.out.at0 HG.out
              rw [hd] at HA
              have HA := Lib.hid HA
              have hdbda := da.toNat_lt
              clear hd
              go_wp2_with fail
              refine HA.out.mono ?_
              rintro e we ⟨rfl, qq, rfl⟩
              clear HA
              have C11 := Lib.hid (C10.out.drewN qq)
              by_cases h44 : da = 44
              · have hz44 : (da.toNat : Int) = 44 := by rw [h44]; rfl
                have hb44 : ((da.toNat : Int) == 44) = true := by rw [hz44]; rfl
                have H44 := Lib.hid h44
                clear h44
                have HV := Lib.hid (C11.out.adv HG.out HLTda.out (by rw [HDda.out]; rw [H44.out]; decide))
                go_wp2_with fail
                refine HV.out.mono ?_
                rintro e we ⟨rfl, hx⟩
                have C12 := Lib.hid hx.out
                clear HV hx
                go_wp2_with fail
                go_returns
                exact .inl ⟨o, kd, u, _, _, _, a, _, a2, _, by rw [HJ.out, HN2.out], Lib.hid ⟨by simp [dm.fieldM, HTOK.out, HVV.out, HON.out, HSd.out, H61.out, HVAL.out, dm.afterM, HSda.out, H44.out], HON.out, C12.out.sub (by simp)⟩⟩
              · have hz44 : ¬ (da.toNat : Int) = 44 := fun e => h44 (UInt8.toNat_inj.1 (by show da.toNat = 44; omega))
                have hb44 : ((da.toNat : Int) == 44) = false := by simp; exact hz44
                have HN44 : Hid (da ≠ 44) := Lib.hid h44
                clear h44
                go_wp2_with fail
                refine (set.mk_whitespace _).mono ?_
                rintro e wa ⟨R, rfl, hR⟩
                have C12 := Lib.hid (C11.out.made hR)
                obtain ⟨bw, hbw⟩ : ∃ bw, dm.white da = bw := ⟨_, rfl⟩
                have HGT := set.get33 R (set.inN 1) da wa hR.2.1
                rw [set.inN_byte, show dm.inS 1 da = bw from hbw] at HGT
                have HGT := Lib.hid HGT
                have HBW := Lib.hid hbw
                clear hR hbw
                go_wp2_with fail
                refine HGT.out.mono ?_
                rintro e wb ⟨rfl, rfl⟩
                clear HGT
                cases bw with
                | false =>
                  obtain ⟨r0, r1, k2, k3, k4, k5, k6, kz⟩ := C12.out.cells HG.out
                  obtain ⟨st, hst⟩ : ∃ st : Nat, x2 - y = st := ⟨_, rfl⟩
                  rw [hst] at k4
                  have HST := Lib.hid hst
                  have HSY := Lib.hid (fun (Y : Nat) (ms : ByteArray) (w2 : World) (hb : But [] _ w2) (hY : _ ≤ Y) (hr : Rw w2 Y [.string ms] 121) => C12.out.syn HG.out x2 (by have := C12.out.from_le; omega) (Nat.le_refl _) hb Y ms hY hr (st : Int) (by rw [HST.out]))
                  clear k5 k6 kz hst
                  go_wp2_with fail
                  go_region_held3 (fun wx => wx.cell? ⟨G.D, 3, none⟩ = some (.int .i64 r1) ∧ wx.cell? ⟨G.D, 2, none⟩ = some (.int .i64 r0)) (first | exact ⟨k3, k2⟩ | exact ⟨d3, d2⟩) (first | (go_at_call 55; (with_reducible refine (new37r _ _).mono ?_); rintro e we ⟨rfl, hbe, hre⟩; have d3 := hbe.cellAt (p := ⟨G.D, 3, none⟩) k3 (by simp); have d2 := hbe.cellAt (p := ⟨G.D, 2, none⟩) k2 (by simp); have HBE := Lib.hid hbe; have HRE := Lib.hid hre; clear hbe hre) | (go_at_call 54; (refine (HSY.out _ _ _ (((But.refl [] _).drew).trans HBE.out) (by exact Nat.le_refl _) HRE.out).mono ?_); rintro e wf ⟨v, rfl, hv, e2, e3⟩; have d3 := e3.trans d3; have d2 := e2.trans d2; clear e2 e3))
                  go_wp2_with fail
                  go_returns
                  exact .inr (.inr ⟨_, rfl, Lib.hid (hv.out.bad (by simp [dm.fieldM, HTOK.out, HVV.out, HON.out, HSd.out, H61.out, HVAL.out, dm.afterM, HSda.out, HN44.out, HBW.out]))⟩)
                | true =>
                  go_wp2_with fail
                  refine (set.mk_fieldSeparatorSpace _).mono ?_
                  rintro e wa ⟨R, rfl, hR⟩
                  have HT := Lib.hid (C12.out.take HG.out hR (But.refl [] _) (by decide))
                  clear hR
                  go_wp2_with fail
                  refine HT.out.mono ?_
                  rintro e wb ⟨at_, jt, ct, rfl, hx⟩
                  have HJT := Lib.hid hx.out.1
                  have C13 := Lib.hid hx.out.2.1
                  have Hct := Lib.hid hx.out.2.2
                  clear hx HT
                  have HEO := C13.out.eol HG.out
                  obtain ⟨er, her⟩ : ∃ er, dm.eol (G.T.drop (x2 + jt)) = er := ⟨_, rfl⟩
                  rw [her] at HEO
                  have HER := Lib.hid her
                  have HEO := Lib.hid HEO
                  clear her
                  cases er with
                  | some e0 =>
                    have HEN : Hid (eolN (G.T.drop (x2 + jt)) = e0) := Lib.hid (by unfold eolN; rw [HER.out]; rfl)
                    go_wp2_with fail
                    refine HEO.out.mono ?_
                    rintro e wc2 ⟨rfl, hx⟩
                    have C14 := hx.out
                    rw [HEN.out] at C14
                    have C14 := Lib.hid C14
                    clear hx HEO
                    obtain ⟨r0, r1, k2, k3, k4, k5, k6, kz⟩ := C14.out.cells HG.out
                    have z5 := kz 5
                    have C15 := Lib.hid (C14.out.sec HG.out 5 (.int .u8 5) rfl)
                    clear k2 k3 k4 k6 kz
                    go_wp2_with fail
                    go_returns
                    exact .inl ⟨o, kd, u, _, _, _, a, _, a2, _, by rw [HJ.out, HN2.out], Lib.hid ⟨by simp [dm.fieldM, HTOK.out, HVV.out, HON.out, HSd.out, H61.out, HVAL.out, dm.afterM, HSda.out, HN44.out, HBW.out, ← HJT.out, HER.out], HON.out, C15.out.sub (by simp)⟩⟩
                  | none =>
                    have HEN : Hid (eolN (G.T.drop (x2 + jt)) = 0) := Lib.hid (by unfold eolN; rw [HER.out]; rfl)
                    go_wp2_with fail
                    refine HEO.out.mono ?_
                    rintro e wc2 ⟨rfl, hx⟩
                    have C14 := hx.out
                    rw [HEN.out, Nat.add_zero] at C14
                    have C14 := Lib.hid C14
                    clear hx HEO
                    obtain ⟨r0, r1, k2, k3, k4, k5, k6, kz⟩ := C14.out.cells HG.out
                    have z5 := kz 5
                    have C15 := Lib.hid (C14.out.sec HG.out 3 (.int .u8 3) rfl)
                    clear k2 k3 k4 k6 kz
                    go_wp2_with fail
                    go_returns
                    exact .inl ⟨o, kd, u, _, _, _, a, _, a2, _, by rw [HJ.out, HN2.out], Lib.hid ⟨by simp [dm.fieldM, HTOK.out, HVV.out, HON.out, HSd.out, H61.out, HVAL.out, dm.afterM, HSda.out, HN44.out, HBW.out, ← HJT.out, HER.out], HON.out, C15.out.sub (by simp)⟩⟩
      · have hzd : ¬ (d.toNat : Int) = 61 := fun e => h61 (UInt8.toNat_inj.1 (by show d.toNat = 61; omega))
        have hb61 : ((d.toNat : Int) != 61) = true := by simp; exact hzd
        have HN61 : Hid (d ≠ 61) := Lib.hid h61
        clear h61
        obtain ⟨r0, r1, k2, k3, k4, k5, k6, kz⟩ := C5.out.cells HG.out
        obtain ⟨st, hst⟩ : ∃ st : Nat, (x + q) - y = st := ⟨_, rfl⟩
        rw [hst] at k4
        have HST := Lib.hid hst
        have HSY := Lib.hid (fun (Y : Nat) (ms : ByteArray) (w2 : World) (hb : But [] _ w2) (hY : _ ≤ Y) (hr : Rw w2 Y [.string ms] 121) => C5.out.syn HG.out (x + q) (by have := C5.out.from_le; omega) (Nat.le_refl _) hb Y ms hY hr (st : Int) (by rw [HST.out]))
        clear k5 k6 kz hst
        go_wp2_with fail
        go_region_held3 (fun wx => wx.cell? ⟨G.D, 3, none⟩ = some (.int .i64 r1) ∧ wx.cell? ⟨G.D, 2, none⟩ = some (.int .i64 r0)) (first | exact ⟨k3, k2⟩ | exact ⟨d3, d2⟩) (first | (go_at_call 55; (with_reducible refine (new37r _ _).mono ?_); rintro e we ⟨rfl, hbe, hre⟩; have d3 := hbe.cellAt (p := ⟨G.D, 3, none⟩) k3 (by simp); have d2 := hbe.cellAt (p := ⟨G.D, 2, none⟩) k2 (by simp); have HBE := Lib.hid hbe; have HRE := Lib.hid hre; clear hbe hre) | (go_at_call 54; (refine (HSY.out _ _ _ (((But.refl [] _).drew).trans HBE.out) (by exact Nat.le_refl _) HRE.out).mono ?_); rintro e wf ⟨v, rfl, hv, e2, e3⟩; have d3 := e3.trans d3; have d2 := e2.trans d2; clear e2 e3))
        go_wp2_with fail
        go_returns
        exact .inr (.inr ⟨_, rfl, Lib.hid (hv.out.bad (by simp [dm.fieldM, HTOK.out, HVV.out, HON.out, HSd.out, HN61.out]))⟩)
end
end Go.Proofs.YtlcbcgillekphaaGreatDoor.dec
