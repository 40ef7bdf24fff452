/-
  Proved: the contracts of the reference's decoder: behind, Name.
  Conditions: a text of at most 4000 bytes.
-/
import Derived.Test.YtlcbcgillekphaaGreatDoorSd4
namespace Go.Proofs.YtlcbcgillekphaaGreatDoor.sd
open Go.RowKit Mem rw
set_option linter.unusedVariables false
set_option linter.unusedSimpArgs false

/-- What behind tells. -/
def BhOut (P : Nat) (s : ByteArray) (a p f : Nat) (w : World) (e : Ending) (w' : World) : Prop :=
  (∃ a', dm.behindM s.data.toList ⟨a, p, f⟩ = (none, ⟨a', p, f⟩) ∧ e = .returned (.agg #[.bool false, .int .i64 0, .int .i64 0, .bool false]) ∧ Hid (At w P s a' p f w')) ∨
  (∃ i a' l k, dm.behindM s.data.toList ⟨a, p, f⟩ = (some i, ⟨a', p, f⟩) ∧ dm.place s.data.toList f i = (l, k) ∧ e = .returned (.agg #[.bool true, .int .i64 (l : Nat), .int .i64 (k : Nat), .bool false]) ∧ Hid (At w P s a' (badP p) f w'))
theorem fault' (P : Nat) (s : ByteArray) (hs : s.size ≤ 4000) (a p f : Nat) (w : World) (h : SD w P s a p f) (i : Nat) (hf : f ≤ i) (hi : i ≤ s.size) (l k : Nat) (hlk : dm.place s.data.toList f i = (l, k)) :
    Calls Tryz.prog 73 #[.pointer (some ⟨P, 0, none⟩), .int .i64 i] w fun e w' => e = .returned (.agg #[.bool true, .int .i64 (l : Nat), .int .i64 (k : Nat), .bool false]) ∧ Hid (At w P s a (badP p) f w') := by
  have := fault73 P s hs a p f w h i hf hi
  unfold fltV at this
  rw [hlk] at this
  exact this
theorem byteS {s : ByteArray} {a : Nat} (h : a < s.size) : s.data.toList[a]? = some (s[a]'h) := by
  rw [List.getElem?_eq_getElem (by simpa using h)]
  rfl
theorem doneQ (P : Nat) (s : ByteArray) (a p f : Nat) (W : World) (h : SD W P s a p f) (b : Bool) (hb : decide (s.size ≤ a) = b) (q : Nat) :
    Calls Tryz.prog 35 #[.pointer (some ⟨P, 0, none⟩)] (W.drewN q) fun e w' => e = .returned (.bool b) ∧ ∃ n, W.drewN n = w' := by
  subst hb
  refine (done35 P s a p f (W.drewN q) (h.but ((But.refl [] W).drewN) (by simp))).mono ?_
  rintro e w' ⟨h1, n, h2⟩
  exact ⟨h1, q + n, by rw [← h2, dec.drewN_add]⟩
theorem nextQ (P : Nat) (s : ByteArray) (a p f : Nat) (W : World) (h : SD W P s a p f) (k : Nat) (hk : k ≤ 13) (b : Bool) (hb : nx s.data.toList a k = b) (q : Nat) :
    Calls Tryz.prog 71 #[.pointer (some ⟨P, 0, none⟩), .int .i64 k] (W.drewN q) fun e w' => e = .returned (.bool b) ∧ ∃ n, W.drewN n = w' := by
  subst hb
  refine (next71 P s a p f (W.drewN q) (h.but ((But.refl [] W).drewN) (by simp)) k hk).mono ?_
  rintro e w' ⟨h1, n, h2⟩
  exact ⟨h1, q + n, by rw [← h2, dec.drewN_add]⟩
set_option maxRecDepth 100000 in
set_option maxHeartbeats 2000000 in
theorem behind74 (P : Nat) (s : ByteArray) (hs : s.size ≤ 4000) (a p f : Nat) (w : World) (h : SD w P s a p f) (ha : a ≤ s.size) (hf : f ≤ a) :
    Calls Tryz.prog 74 #[.pointer (some ⟨P, 0, none⟩)] w (BhOut P s a p f w) := by
  obtain ⟨W, hW⟩ : ∃ W, w.alloc (.cells #[.bool false, .int .i64 0, .int .i64 0, .bool false] 39) = W := ⟨_, rfl⟩
  have hb : But [] w W := hW ▸ (But.refl [] w).alloc _
  have hR : Rw W w.heap.size [.bool false, .int .i64 0, .int .i64 0, .bool false] 39 := hW ▸ Rw.new w _ _
  have hPl := Rw.lt h
  have hPR : P ≠ w.heap.size := by omega
  have h0 : w.heap.size ≤ w.heap.size := Nat.le_refl _
  have hA := At.quiet (At.refl h) hb
  obtain ⟨c0, c1, c2, c3⟩ := hA.sd.cells
  obtain ⟨bd, hbd⟩ : ∃ bd, decide (s.size ≤ a) = bd := ⟨_, rfl⟩
  have HD := Lib.hid (doneQ P s a p f W hA.sd bd hbd)
  have HA := Lib.hid (And.intro hA hR)
  obtain ⟨⟨y0, y1, y2, y3⟩, z0, z1, z2, z3⟩ := Rw.four hR
  have q1 := hA.sd.fz 1
  by_cases hlt : a < s.size
  · have hi : (a : Int) < (s.size : Int) := by omega
    have hdn : bd = false := by rw [← hbd]; simpa using hlt
    subst hdn
    have hsm := byteS hlt
    obtain ⟨c, hc⟩ : ∃ c, s[a]'hlt = c := ⟨_, rfl⟩
    rw [hc] at hsm
    have hcb := c.toNat_lt
    have HS := Lib.hid hsm
    by_cases h44 : c = 44
    · have hz : (c.toNat : Int) = 44 := by rw [h44]; rfl
      have hb44 : ((c.toNat : Int) == 44) = true := by rw [hz]; rfl
      have H44 := Lib.hid h44
      obtain ⟨a1, ha1⟩ : ∃ a1, a + 1 = a1 := ⟨_, rfl⟩
      have hw1 : IntKind.i64.wrap ((a : Int) + 1) = (a1 : Int) := by rw [IntKind.wrap_i64]; omega
      have HA1 := Lib.hid ha1
      have hle1 : a1 ≤ s.size := by omega
      clear hA hb hR h h44 hsm hbd ha1 y0 y1 y2 y3 z0 z1 z2 z3
      go_enter Tryz.func74, Tryz.ntmps74
      go_wp2_with fail
      go_quiet ((go_at_call 35; (with_reducible refine (HD.out _).mono ?_); rintro e w2 ⟨rfl, q, rfl⟩; exact ⟨rfl, _, rfl⟩))
      have hA1 := (HA.out.1.quiet ((But.refl [] W).drewN (n := nq))).set a1
      have hR1 := Rw.but (Rw.but HA.out.2 ((But.refl [] W).drewN (n := nq)) (by simp)) ((But.refl [P] (W.drewN nq)).setCell (p := ⟨P, 1, none⟩) (Or.inl (by simp)) (.int .i64 (a1 : Int))) (by simpa using fun e => hPR e.symm)
      obtain ⟨W1, hW1⟩ : ∃ W1, (W.drewN nq).setCell ⟨P, 1, none⟩ (.int .i64 (a1 : Int)) = W1 := ⟨_, rfl⟩
      rw [hW1] at hA1 hR1
      obtain ⟨bd1, hbd1⟩ : ∃ bd1, decide (s.size ≤ a1) = bd1 := ⟨_, rfl⟩
      have HD1 := Lib.hid (done35 P s a1 p f W1 hA1.sd)
      rw [hbd1] at HD1
      have HBD1 := Lib.hid hbd1
      have HX := Lib.hid (And.intro hA1 hR1)
      clear hA1 hR1 hbd1 HD
      go_wp2_with fail
      refine HD1.out.mono ?_
      rintro e w2 ⟨rfl, q2, rfl⟩
      clear HD1 hW1
      have hA2 := HX.out.1.quiet ((But.refl [] W1).drewN (n := q2))
      have hR2 := Rw.but HX.out.2 ((But.refl [] W1).drewN (n := q2)) (by simp)
      obtain ⟨⟨i1, i2⟩, hlk⟩ : ∃ q : Nat × Nat, dm.place s.data.toList f a1 = q := ⟨_, rfl⟩
      obtain ⟨d0, d1, d2, d3⟩ := HX.out.1.sd.cells
      have HA2 := Lib.hid (And.intro hA2 hR2)
      have HFL := Lib.hid (fun W3 (hA3 : At w P s a1 p f W3) => fault' P s hs a1 p f W3 hA3.sd a1 (by have := HA1.out; omega) hle1 i1 i2 hlk)
      have HLK := Lib.hid hlk
      clear c0 c1 c2 c3 hA2 hR2 hlk q1
      cases bd1 with
      | true =>
        have HNO : Hid (s.data.toList[a1]? = none) := Lib.hid (List.getElem?_eq_none (by have := HBD1.out; simp at this ⊢; exact this))
        have HF := Lib.hid (HFL.out _ HA2.out.1)
        clear HFL
        go_wp2_with fail
        refine HF.out.mono ?_
        rintro e w4 ⟨rfl, h4⟩
        have hA4 := HA2.out.1.trans h4.out
        have hR4 := Rw.but HA2.out.2 h4.out.but (by simpa using fun e => hPR e.symm)
        obtain ⟨W5, hW5, hA5, hR5, hb5⟩ := put4 hA4 hR4 h0 hPR (.bool true) (.int .i64 i1) (.int .i64 i2) (.bool false)
        obtain ⟨⟨y0, y1, y2, y3⟩, z0, z1, z2, z3⟩ := Rw.four hR4
        obtain ⟨⟨x0, x1, x2, x3⟩, u0, u1, u2, u3⟩ := Rw.four hR5
        have HE := Lib.hid hA5
        clear hA4 hR4 hA5 hR5 hb5 h4 HF d0 d1 d2 d3
        go_wp2_with fail
        refine bodyPost_ret (v := .agg #[.bool true, .int .i64 i1, .int .i64 i2, .bool false]) (by simp [results, Tryz.results74, go_sem, x0, x1, x2, x3]) rfl ?_
        exact .inr ⟨a1, a1, i1, i2, by have h1 := HNO.out; rw [← HA1.out] at h1 ⊢; simp [dm.behindM, HS.out, H44.out, h1], HLK.out, rfl, HE⟩
      | false =>
        obtain ⟨bn, hbn⟩ : ∃ bn, nx s.data.toList a1 1 = bn := ⟨_, rfl⟩
        have HNX := next71 P s a1 p f (W1.drewN q2) HA2.out.1.sd 1 (by decide)
        rw [hbn] at HNX
        have HNX := Lib.hid HNX
        have hlt1 : a1 < s.size := by have := HBD1.out; simpa using this
        have hs1 := byteS hlt1
        obtain ⟨c1', hc1'⟩ : ∃ c1', s[a1]'hlt1 = c1' := ⟨_, rfl⟩
        rw [hc1'] at hs1
        have HS1 := Lib.hid hs1
        have HBN : Hid (dm.white c1' = bn) := Lib.hid (by
          unfold nx at hbn
          rw [hs1] at hbn
          exact hbn)
        clear hbn hlt1 hs1 hc1'
        go_wp2_with fail
        refine HNX.out.mono ?_
        rintro e w2 ⟨rfl, q3, rfl⟩
        clear HNX
        have hA3 := HX.out.1.quiet ((But.refl [] W1).drewN (n := q2 + q3))
        have hR3 := Rw.but HX.out.2 ((But.refl [] W1).drewN (n := q2 + q3)) (by simp)
        have HA2 := Lib.hid (And.intro hA3 hR3)
        obtain ⟨⟨y0, y1, y2, y3⟩, z0, z1, z2, z3⟩ := Rw.four HX.out.2
        clear hA3 hR3
        cases bn with
        | true =>
          have HF := Lib.hid (HFL.out _ HA2.out.1)
          clear HFL y0 y1 y2 y3 z0 z1 z2 z3
          go_wp2_with fail
          refine HF.out.mono ?_
          rintro e w4 ⟨rfl, h4⟩
          have hA4 := HA2.out.1.trans h4.out
          have hR4 := Rw.but HA2.out.2 h4.out.but (by simpa using fun e => hPR e.symm)
          obtain ⟨W5, hW5, hA5, hR5, hb5⟩ := put4 hA4 hR4 h0 hPR (.bool true) (.int .i64 i1) (.int .i64 i2) (.bool false)
          obtain ⟨⟨y0, y1, y2, y3⟩, z0, z1, z2, z3⟩ := Rw.four hR4
          obtain ⟨⟨x0, x1, x2, x3⟩, u0, u1, u2, u3⟩ := Rw.four hR5
          have HE := Lib.hid hA5
          clear hA4 hR4 hA5 hR5 hb5 h4 HF d0 d1 d2 d3
          go_wp2_with fail
          refine bodyPost_ret (v := .agg #[.bool true, .int .i64 i1, .int .i64 i2, .bool false]) (by simp [results, Tryz.results74, go_sem, x0, x1, x2, x3]) rfl ?_
          exact .inr ⟨a1, a1, i1, i2, by have h1 := HS1.out; rw [← HA1.out] at h1 ⊢; simp [dm.behindM, HS.out, H44.out, h1, HBN.out], HLK.out, rfl, HE⟩
        | false =>
          clear HFL
          go_wp2_with fail
          obtain ⟨W5, hW5, hA5, hR5, hb5⟩ := put4 HA2.out.1 HA2.out.2 h0 hPR (.bool false) (.int .i64 0) (.int .i64 0) (.bool false)
          rw [hW5]
          obtain ⟨⟨x0, x1, x2, x3⟩, u0, u1, u2, u3⟩ := Rw.four hR5
          refine bodyPost_ret (v := .agg #[.bool false, .int .i64 0, .int .i64 0, .bool false]) (by simp [results, Tryz.results74, go_sem, x0, x1, x2, x3]) rfl ?_
          exact .inl ⟨a1, by have h1 := HS1.out; rw [← HA1.out] at h1 ⊢; simp [dm.behindM, HS.out, H44.out, h1, HBN.out], rfl, Lib.hid hA5⟩
    · have hz : ¬ (c.toNat : Int) = 44 := fun e => h44 (UInt8.toNat_inj.1 (by show c.toNat = 44; omega))
      have hb44 : ((c.toNat : Int) == 44) = false := by simp; exact hz
      have HM : Hid (dm.behindM s.data.toList ⟨a, p, f⟩ = (none, ⟨a, p, f⟩)) := Lib.hid (by simp [dm.behindM, hsm, h44])
      clear hA hb hR h h44 hsm hbd
      go_enter Tryz.func74, Tryz.ntmps74
      go_wp2_with fail
      go_quiet ((go_at_call 35; (with_reducible refine (HD.out _).mono ?_); rintro e w2 ⟨rfl, q, rfl⟩; exact ⟨rfl, _, rfl⟩))
      go_wp2_with fail
      have hA3 := HA.out.1.quiet ((But.refl [] W).drewN (n := nq))
      have hR3 := Rw.but HA.out.2 ((But.refl [] W).drewN (n := nq)) (by simp)
      have HA2 := Lib.hid (And.intro hA3 hR3)
      obtain ⟨W5, hW5, hA5, hR5, hb5⟩ := put4 HA2.out.1 HA2.out.2 h0 hPR (.bool false) (.int .i64 0) (.int .i64 0) (.bool false)
      rw [hW5]
      obtain ⟨⟨x0, x1, x2, x3⟩, u0, u1, u2, u3⟩ := Rw.four hR5
      refine bodyPost_ret (v := .agg #[.bool false, .int .i64 0, .int .i64 0, .bool false]) (by simp [results, Tryz.results74, go_sem, x0, x1, x2, x3]) rfl ?_
      exact .inl ⟨a, HM.out, rfl, Lib.hid hA5⟩
  · have hi : ¬ (a : Int) < (s.size : Int) := by omega
    have hdn : bd = true := by rw [← hbd]; simp; omega
    subst hdn
    have HM : Hid (dm.behindM s.data.toList ⟨a, p, f⟩ = (none, ⟨a, p, f⟩)) := Lib.hid (by simp [dm.behindM, List.getElem?_eq_none (show s.data.toList.length ≤ a by simp; omega)])
    clear hA hb hR h hbd
    go_enter Tryz.func74, Tryz.ntmps74
    go_wp2_with fail
    go_quiet ((go_at_call 35; (with_reducible refine (HD.out _).mono ?_); rintro e w2 ⟨rfl, q, rfl⟩; exact ⟨rfl, _, rfl⟩))
    go_wp2_with fail
    have hA3 := HA.out.1.quiet ((But.refl [] W).drewN (n := nq))
    have hR3 := Rw.but HA.out.2 ((But.refl [] W).drewN (n := nq)) (by simp)
    have HA2 := Lib.hid (And.intro hA3 hR3)
    obtain ⟨W5, hW5, hA5, hR5, hb5⟩ := put4 HA2.out.1 HA2.out.2 h0 hPR (.bool false) (.int .i64 0) (.int .i64 0) (.bool false)
    rw [hW5]
    obtain ⟨⟨x0, x1, x2, x3⟩, u0, u1, u2, u3⟩ := Rw.four hR5
    refine bodyPost_ret (v := .agg #[.bool false, .int .i64 0, .int .i64 0, .bool false]) (by simp [results, Tryz.results74, go_sem, x0, x1, x2, x3]) rfl ?_
    exact .inl ⟨a, HM.out, rfl, Lib.hid hA5⟩
end Go.Proofs.YtlcbcgillekphaaGreatDoor.sd
