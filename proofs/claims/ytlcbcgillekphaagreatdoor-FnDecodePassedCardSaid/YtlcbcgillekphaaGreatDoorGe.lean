/-
  Proved: plain laws on where the reference's functions stand: their receiver, their results' cells · the contract of the reference's Name · the contract of the reference's LineEnd · plain laws: the contracts of the reference's decoder, told by where its callers stand.
  Conditions: each law's own; a text of at most 4000 bytes where one is read.
-/
import Derived.Test.YtlcbcgillekphaaGreatDoorSd5
import Derived.Test.YtlcbcgillekphaaGreatDoorGc
import Derived.Deep.RegionHeld3
namespace Go.Proofs.YtlcbcgillekphaaGreatDoor.sd
open Go.RowKit Mem rw ent
set_option linter.unusedVariables false
set_option linter.unusedSimpArgs false

/-- A function of the reference's stands: its fault's cells lie at R and hold q, its other result's cells at X and hold c. -/
structure FS (w0 : World) (P : Nat) (s : ByteArray) (R : Nat) (q : List Value) (X : Nat) (c : List Value) (T : TypeId) (a p f : Nat) (w : World) : Prop where
  at_ : At w0 P s a p f w
  r : Rw w R q 39
  x : c ≠ [] → Rw w X c T
  nr : w0.heap.size ≤ R
  nx : w0.heap.size ≤ X
  rx : R ≠ X
  pr : P ≠ R
  px : P ≠ X
section
variable {w0 w : World} {P : Nat} {s : ByteArray} {R : Nat} {q : List Value} {X : Nat} {c : List Value} {T : TypeId} {a p f : Nat}
theorem FS.cells (h : FS w0 P s R q X c T a p f w) : (w.cell? ⟨P, 0, none⟩ = some (.string s) ∧ w.cell? ⟨P, 1, none⟩ = some (.int .i64 a) ∧ w.cell? ⟨P, 2, none⟩ = some (.int .i64 p) ∧ w.cell? ⟨P, 3, none⟩ = some (.int .i64 f)) ∧ (w.frozen? ⟨P, 1, none⟩ = false ∧ w.frozen? ⟨P, 2, none⟩ = false ∧ w.frozen? ⟨P, 3, none⟩ = false) ∧
    (∀ j, w.cell? ⟨R, j, none⟩ = q[j]?) ∧ (w.frozen? ⟨R, 0, none⟩ = false ∧ w.frozen? ⟨R, 1, none⟩ = false ∧ w.frozen? ⟨R, 2, none⟩ = false ∧ w.frozen? ⟨R, 3, none⟩ = false) ∧ (∀ j v, c[j]? = some v → w.cell? ⟨X, j, none⟩ = some v) ∧ (∀ j, c ≠ [] → w.frozen? ⟨X, j, none⟩ = false) :=
  ⟨h.at_.sd.cells, ⟨h.at_.sd.fz 1, h.at_.sd.fz 2, h.at_.sd.fz 3⟩, fun j => Rw.cell h.r j, ⟨Rw.fz h.r 0, Rw.fz h.r 1, Rw.fz h.r 2, Rw.fz h.r 3⟩, fun j v e => (Rw.cell (h.x (fun e2 => by rw [e2] at e; simp at e)) j).trans e, fun j hc => Rw.fz (h.x hc) j⟩
theorem FS.call (h : FS w0 P s R q X c T a p f w) {a' p' f' : Nat} {w' : World} (k : At w P s a' p' f' w') : FS w0 P s R q X c T a' p' f' w' :=
  ⟨h.at_.trans k, Rw.but h.r k.but (by simpa using fun e => h.pr e.symm), fun hc => Rw.but (h.x hc) k.but (by simpa using fun e => h.px e.symm), h.nr, h.nx, h.rx, h.pr, h.px⟩
theorem FS.quiet (h : FS w0 P s R q X c T a p f w) {w' : World} (hb : But [] w w') : FS w0 P s R q X c T a p f w' := h.call ((At.refl h.at_.sd).quiet hb)
theorem FS.drew (h : FS w0 P s R q X c T a p f w) (n : Nat) : FS w0 P s R q X c T a p f (w.drewN n) := h.quiet ((But.refl [] w).drewN)
theorem FS.set (h : FS w0 P s R q X c T a p f w) (a' : Nat) : ∃ W, w.setCell ⟨P, 1, none⟩ (.int .i64 (a' : Int)) = W ∧ FS w0 P s R q X c T a' p f W := ⟨_, rfl, h.call ((At.refl h.at_.sd).set a')⟩
theorem FS.setp (h : FS w0 P s R q X c T a p f w) (p' : Nat) (v : Value) (hv : v = .int .i64 (p' : Int)) : ∃ W, w.setCell ⟨P, 2, none⟩ v = W ∧ FS w0 P s R q X c T a p' f W := by
  subst hv; exact ⟨_, rfl, h.call ((At.refl h.at_.sd).setp p')⟩
theorem FS.four (h : FS w0 P s R q X c T a p f w) (hq : q.length = 4) (v0 v1 v2 v3 : Value) : ∃ W, (((w.setCell ⟨R, 0, none⟩ v0).setCell ⟨R, 1, none⟩ v1).setCell ⟨R, 2, none⟩ v2).setCell ⟨R, 3, none⟩ v3 = W ∧ FS w0 P s R [v0, v1, v2, v3] X c T a p f W := by
  obtain ⟨u0, u1, u2, u3, rfl⟩ : ∃ u0 u1 u2 u3, q = [u0, u1, u2, u3] := by
    match q, hq with
    | [a, b, c, d], _ => exact ⟨a, b, c, d, rfl⟩
  obtain ⟨W, e, hA, hR, hb⟩ := put4 h.at_ h.r h.nr h.pr v0 v1 v2 v3
  exact ⟨W, e, hA, hR, fun hc => Rw.but (h.x hc) hb (by simpa using fun e => h.rx e.symm), h.nr, h.nx, h.rx, h.pr, h.px⟩
theorem FS.putx (h : FS w0 P s R q X c T a p f w) (hc : c ≠ []) (j : Nat) (v : Value) : ∃ W, w.setCell ⟨X, j, none⟩ v = W ∧ FS w0 P s R q X (c.set j v) T a p f W := by
  have hb : But [X] w (w.setCell ⟨X, j, none⟩ v) := (But.refl [X] w).setCell (Or.inl (by simp)) v
  exact ⟨_, rfl, ⟨h.at_.sd.but hb (by simpa using h.px), h.at_.but.setCell (Or.inr h.nx) v⟩, Rw.but h.r hb (by simpa using h.rx), fun _ => Rw.set (h.x hc) j v, h.nr, h.nx, h.rx, h.pr, h.px⟩
theorem FS.le (h : FS w0 P s R q X c T a p f w) : True := trivial
end
/-- The fault's cells, one by one. -/
theorem four_at {w : World} {R : Nat} {v0 v1 v2 v3 : Value} (h : ∀ j, w.cell? ⟨R, j, none⟩ = [v0, v1, v2, v3][j]?) : w.cell? ⟨R, 0, none⟩ = some v0 ∧ w.cell? ⟨R, 1, none⟩ = some v1 ∧ w.cell? ⟨R, 2, none⟩ = some v2 ∧ w.cell? ⟨R, 3, none⟩ = some v3 := ⟨h 0, h 1, h 2, h 3⟩
def strB (l : List UInt8) : ByteArray := ⟨l.toArray⟩
/-- What the reference tells as a fault. -/
def FltAt (P : Nat) (s : ByteArray) {α : Type} (r : dm.Res α × dm.M) (w w' : World) (l k : Nat) : Prop := ∃ a p f, r = (.fault l k, ⟨a, p, f⟩) ∧ At w P s a p f w'
theorem FltAt.of {P : Nat} {s : ByteArray} {α : Type} {r : dm.Res α × dm.M} {w w' : World} {i l k a p f : Nat} (h : At w P s a (badP p) f w') (hlk : dm.place s.data.toList f i = (l, k)) (hr : r = dm.flt s.data.toList ⟨a, p, f⟩ i) : FltAt P s r w w' l k := by
  refine ⟨a, badP p, f, ?_, h⟩
  rw [hr]
  unfold dm.flt
  simp only []
  rw [hlk]
  rfl
end Go.Proofs.YtlcbcgillekphaaGreatDoor.sd
namespace Go.Proofs.YtlcbcgillekphaaGreatDoor.sd
open Go.RowKit Mem rw ent
set_option linter.unusedVariables false
set_option linter.unusedSimpArgs false

/-- The first byte of a text. -/
theorem first_byte {l : List UInt8} (h : l ≠ []) : ∃ (hh : 0 < (⟨l.toArray⟩ : ByteArray).size) (c : UInt8), (⟨l.toArray⟩ : ByteArray)[0]'hh = c ∧ l.head? = some c := by
  cases l with
  | nil => exact absurd rfl h
  | cons c t => exact ⟨by simp [ByteArray.size], c, rfl, rfl⟩
theorem str_ne {l : List UInt8} (h : l ≠ []) : ¬ (⟨l.toArray⟩ : ByteArray) = ⟨#[]⟩ := fun e => h (by
  have : l.toArray = #[] := congrArg ByteArray.data e
  simpa using this)
/-- token, its token named. -/
theorem token' (P : Nat) (s : ByteArray) (hs : s.size ≤ 4000) (a p f : Nat) (w : World) (h : SD w P s a p f) (ha : a ≤ s.size) (hf : f ≤ a) (k : Nat) (hk : k ≤ 4) (o : List UInt8) (q : Nat) (htok : dm.tok k (s.data.toList.drop a) = (o, q)) (l c : Nat) (hlk : dm.place s.data.toList f a = (l, c)) :
    Calls Tryz.prog 72 #[.pointer (some ⟨P, 0, none⟩), .int .i64 k] w fun e w' =>
      (utf.V o = true ∧ e = .returned (.tuple #[.string ⟨o.toArray⟩, .agg #[.bool false, .int .i64 0, .int .i64 0, .bool false]]) ∧ Hid (At w P s (a + q) p f w')) ∨
      (utf.V o = false ∧ e = .returned (.tuple #[.string ⟨#[]⟩, .agg #[.bool true, .int .i64 (l : Nat), .int .i64 (c : Nat), .bool false]]) ∧ Hid (At w P s (a + q) (badP p) f w')) := by
  have := token72 P s hs a p f w h ha hf k hk
  unfold TkOut at this
  rw [htok] at this
  unfold fltV at this
  rw [hlk] at this
  exact this
theorem behind_part {T : List UInt8} {a p f a' : Nat} {r : Option Nat} (h : dm.behindM T ⟨a, p, f⟩ = (r, ⟨a', p, f⟩)) (p' : Nat) : dm.behindM T ⟨a, p', f⟩ = (r, ⟨a', p', f⟩) := by
  unfold dm.behindM at h ⊢
  by_cases h1 : T[a]? = some 44
  · simp only [h1, if_true] at h ⊢
    cases h2 : T[a + 1]? with
    | none => simp [h2] at h ⊢; exact ⟨h.1, h.2⟩
    | some c =>
      simp only [h2] at h ⊢
      by_cases h3 : dm.white c = true
      · simp [h3] at h ⊢; exact ⟨h.1, h.2⟩
      · simp [h3] at h ⊢; exact ⟨h.1, h.2⟩
  · simp only [h1, if_false] at h ⊢
    simp at h ⊢; exact ⟨h.1, h.2⟩
def NmOut (P : Nat) (s : ByteArray) (r : dm.Res (List UInt8) × dm.M) (w : World) (e : Ending) (w' : World) : Prop :=
  (∃ o a' p' f', r = (.some o, ⟨a', p', f'⟩) ∧ e = .returned (.tuple #[.string (strB o), .bool true, .agg #[.bool false, .int .i64 0, .int .i64 0, .bool false]]) ∧ Hid (At w P s a' p' f' w')) ∨
  (∃ l k, e = .returned (.tuple #[.string ⟨#[]⟩, .bool false, .agg #[.bool true, .int .i64 (l : Nat), .int .i64 (k : Nat), .bool false]]) ∧ Hid (FltAt P s r w w' l k))
set_option maxRecDepth 100000 in
set_option maxHeartbeats 4000000 in
theorem name36 (P : Nat) (s : ByteArray) (hs : s.size ≤ 4000) (a f : Nat) (w : World) (h : SD w P s a 0 f) (ha : a ≤ s.size) (hf : f ≤ a) :
    Calls Tryz.prog 36 #[.pointer (some ⟨P, 0, none⟩)] w (NmOut P s (dm.nameM s.data.toList ⟨a, 0, f⟩) w) := by
  obtain ⟨W, hW⟩ : ∃ W, w.alloc (.cells #[.bool false, .int .i64 0, .int .i64 0, .bool false] 39) = W := ⟨_, rfl⟩
  have hb : But [] w W := hW ▸ (But.refl [] w).alloc _
  have hR : Rw W w.heap.size [.bool false, .int .i64 0, .int .i64 0, .bool false] 39 := hW ▸ Rw.new w _ _
  have hPl := Rw.lt h
  have H0 : Hid (FS w P s w.heap.size [.bool false, .int .i64 0, .int .i64 0, .bool false] (w.heap.size + 1) [] 39 a 0 f W) := Lib.hid ⟨At.quiet (At.refl h) hb, hR, fun e => absurd rfl e, Nat.le_refl _, Nat.le_succ _, by omega, by omega, by omega⟩
  obtain ⟨R, hRn⟩ : ∃ R, w.heap.size = R := ⟨_, rfl⟩
  obtain ⟨X, hXn⟩ : ∃ X, w.heap.size + 1 = X := ⟨_, rfl⟩
  rw [hXn, hRn] at H0
  clear hXn
  obtain ⟨o, q, htok⟩ : ∃ o' q', dm.tok 0 (s.data.toList.drop a) = (o', q') := ⟨_, _, rfl⟩
  have HTOK := Lib.hid htok
  have hq0 : a + q ≤ s.size := by
    have := dm.tok_le 0 (s.data.toList.drop a)
    rw [htok, List.length_drop] at this
    have hll : s.data.toList.length = s.size := by simp
    omega
  obtain ⟨l, k, hlk⟩ : ∃ l k, dm.place s.data.toList f a = (l, k) := ⟨_, _, rfl⟩
  have HLK := Lib.hid hlk
  have HTK := Lib.hid (token' P s hs a 0 f W H0.out.at_.sd ha hf 0 (by decide) o q htok l k hlk)
  obtain ⟨aq, haq⟩ : ∃ aq, a + q = aq := ⟨_, rfl⟩
  rw [haq] at HTK hq0
  have HAQ := Lib.hid haq
  clear hb hR h htok hlk haq
  obtain ⟨⟨cp0_1, cp1_1, cp2_1, cp3_1⟩, ⟨zp1_1, zp2_1, zp3_1⟩, hq_1, ⟨zr0_1, zr1_1, zr2_1, zr3_1⟩, hx_1, hz_1⟩ := H0.out.cells
  obtain ⟨yr0_1, yr1_1, yr2_1, yr3_1⟩ := four_at hq_1
  clear hq_1 hx_1 hz_1
  go_enter Tryz.func36, Tryz.ntmps36
  go_wp2_with fail
  refine HTK.out.mono ?_
  rintro e wt hT
  clear cp0_1 cp1_1 cp2_1 cp3_1 zp1_1 zp2_1 zp3_1 zr0_1 zr1_1 zr2_1 zr3_1 yr0_1 yr1_1 yr2_1 yr3_1
  rcases hT with ⟨hv, rfl, hA⟩ | ⟨hv, rfl, hA⟩
  rotate_left
  · have HV := Lib.hid hv
    have HFA := Lib.hid (H0.out.call hA.out)
    clear hA hv
    obtain ⟨⟨cp0_2, cp1_2, cp2_2, cp3_2⟩, ⟨zp1_2, zp2_2, zp3_2⟩, hq_2, ⟨zr0_2, zr1_2, zr2_2, zr3_2⟩, hx_2, hz_2⟩ := HFA.out.cells
    obtain ⟨yr0_2, yr1_2, yr2_2, yr3_2⟩ := four_at hq_2
    clear hq_2 hx_2 hz_2
    obtain ⟨W3, hW3, hF3⟩ := HFA.out.four rfl (.bool true) (.int .i64 l) (.int .i64 k) (.bool false)
    have HF3 := Lib.hid hF3
    clear hF3
    obtain ⟨⟨cp0_4, cp1_4, cp2_4, cp3_4⟩, ⟨zp1_4, zp2_4, zp3_4⟩, hq_4, ⟨zr0_4, zr1_4, zr2_4, zr3_4⟩, hx_4, hz_4⟩ := HF3.out.cells
    obtain ⟨yr0_4, yr1_4, yr2_4, yr3_4⟩ := four_at hq_4
    clear hq_4 hx_4 hz_4
    obtain ⟨W5, hW5, hF5⟩ := HF3.out.four rfl (.bool true) (.int .i64 l) (.int .i64 k) (.bool false)
    have HF5 := Lib.hid hF5
    clear hF5
    obtain ⟨⟨cp0_6, cp1_6, cp2_6, cp3_6⟩, ⟨zp1_6, zp2_6, zp3_6⟩, hq_6, ⟨zr0_6, zr1_6, zr2_6, zr3_6⟩, hx_6, hz_6⟩ := HF5.out.cells
    obtain ⟨yr0_6, yr1_6, yr2_6, yr3_6⟩ := four_at hq_6
    clear hq_6 hx_6 hz_6
    clear hW
    go_wp2_with fail
    go_region
    go_wp2_with fail
    refine bodyPost_ret (v := .tuple #[.string ⟨#[]⟩, .bool false, .agg #[.bool true, .int .i64 l, .int .i64 k, .bool false]]) (by simp [results, Tryz.results36, go_sem, yr0_6, yr1_6, yr2_6, yr3_6]) rfl ?_
    exact .inr ⟨l, k, rfl, Lib.hid (FltAt.of (HF5.out.at_.quiet (But.drew (But.refl [] _))) HLK.out (by rw [← HAQ.out]; simp [dm.nameM, HTOK.out, HV.out]))⟩
  have HV := Lib.hid hv
  have HFA := Lib.hid (H0.out.call hA.out)
  clear hA hv hW
  obtain ⟨⟨cp0_7, cp1_7, cp2_7, cp3_7⟩, ⟨zp1_7, zp2_7, zp3_7⟩, hq_7, ⟨zr0_7, zr1_7, zr2_7, zr3_7⟩, hx_7, hz_7⟩ := HFA.out.cells
  obtain ⟨yr0_7, yr1_7, yr2_7, yr3_7⟩ := four_at hq_7
  clear hq_7 hx_7 hz_7
  obtain ⟨W8, hW8, hF8⟩ := HFA.out.four rfl (.bool false) (.int .i64 0) (.int .i64 0) (.bool false)
  have HF8 := Lib.hid hF8
  clear hF8
  obtain ⟨⟨cp0_9, cp1_9, cp2_9, cp3_9⟩, ⟨zp1_9, zp2_9, zp3_9⟩, hq_9, ⟨zr0_9, zr1_9, zr2_9, zr3_9⟩, hx_9, hz_9⟩ := HF8.out.cells
  obtain ⟨yr0_9, yr1_9, yr2_9, yr3_9⟩ := four_at hq_9
  clear hq_9 hx_9 hz_9
  have HFT := Lib.hid (fault' P s hs aq 0 f W8 HF8.out.at_.sd a hf ha l k HLK.out)
  by_cases hon : o = []
  · have HON := Lib.hid hon
    have hse : (⟨o.toArray⟩ : ByteArray) = ⟨#[]⟩ := by rw [hon]
    rw [hse]
    clear hon
    go_wp2_with fail
    refine HFT.out.mono ?_
    rintro e wf ⟨rfl, hA⟩
    have HFB := Lib.hid (HF8.out.call hA.out)
    clear hA
    clear cp0_7 cp1_7 cp2_7 cp3_7 zp1_7 zp2_7 zp3_7 zr0_7 zr1_7 zr2_7 zr3_7 yr0_7 yr1_7 yr2_7 yr3_7 hW8 cp0_9 cp1_9 cp2_9 cp3_9 zp1_9 zp2_9 zp3_9 zr0_9 zr1_9 zr2_9 zr3_9 yr0_9 yr1_9 yr2_9 yr3_9
    obtain ⟨⟨cp0_10, cp1_10, cp2_10, cp3_10⟩, ⟨zp1_10, zp2_10, zp3_10⟩, hq_10, ⟨zr0_10, zr1_10, zr2_10, zr3_10⟩, hx_10, hz_10⟩ := HFB.out.cells
    obtain ⟨yr0_10, yr1_10, yr2_10, yr3_10⟩ := four_at hq_10
    clear hq_10 hx_10 hz_10
    obtain ⟨W11, hW11, hF11⟩ := HFB.out.four rfl (.bool true) (.int .i64 l) (.int .i64 k) (.bool false)
    have HF11 := Lib.hid hF11
    clear hF11
    obtain ⟨⟨cp0_12, cp1_12, cp2_12, cp3_12⟩, ⟨zp1_12, zp2_12, zp3_12⟩, hq_12, ⟨zr0_12, zr1_12, zr2_12, zr3_12⟩, hx_12, hz_12⟩ := HF11.out.cells
    obtain ⟨yr0_12, yr1_12, yr2_12, yr3_12⟩ := four_at hq_12
    clear hq_12 hx_12 hz_12
    go_wp2_with fail
    refine bodyPost_ret (v := .tuple #[.string ⟨#[]⟩, .bool false, .agg #[.bool true, .int .i64 l, .int .i64 k, .bool false]]) (by simp [results, Tryz.results36, go_sem, yr0_12, yr1_12, yr2_12, yr3_12]) rfl ?_
    exact .inr ⟨l, k, rfl, Lib.hid (FltAt.of HF11.out.at_ HLK.out (by rw [← HAQ.out]; simp [dm.nameM, HTOK.out, HV.out, HON.out]))⟩
  · have hse := str_ne hon
    obtain ⟨hos, c, hc, hhd⟩ := first_byte hon
    have hos0 : (0 : Int) < ((⟨o.toArray⟩ : ByteArray).size : Int) := by omega
    have HON := Lib.hid hon
    have HHD := Lib.hid hhd
    have hcb := c.toNat_lt
    clear hon hhd
    by_cases h35 : c = 35
    · have hz : (c.toNat : Int) = 35 := by rw [h35]; rfl
      have hb35 : ((c.toNat : Int) == 35) = true := by rw [hz]; rfl
      have hsb : o.isEmpty = false := by simpa using HON.out
      have H35 := Lib.hid h35
      clear h35
      go_wp2_with fail
      refine HFT.out.mono ?_
      rintro e wf ⟨rfl, hA⟩
      have HFB := Lib.hid (HF8.out.call hA.out)
      clear hA
      clear cp0_7 cp1_7 cp2_7 cp3_7 zp1_7 zp2_7 zp3_7 zr0_7 zr1_7 zr2_7 zr3_7 yr0_7 yr1_7 yr2_7 yr3_7 hW8 cp0_9 cp1_9 cp2_9 cp3_9 zp1_9 zp2_9 zp3_9 zr0_9 zr1_9 zr2_9 zr3_9 yr0_9 yr1_9 yr2_9 yr3_9
      obtain ⟨⟨cp0_10, cp1_10, cp2_10, cp3_10⟩, ⟨zp1_10, zp2_10, zp3_10⟩, hq_10, ⟨zr0_10, zr1_10, zr2_10, zr3_10⟩, hx_10, hz_10⟩ := HFB.out.cells
      obtain ⟨yr0_10, yr1_10, yr2_10, yr3_10⟩ := four_at hq_10
      clear hq_10 hx_10 hz_10
      obtain ⟨W11, hW11, hF11⟩ := HFB.out.four rfl (.bool true) (.int .i64 l) (.int .i64 k) (.bool false)
      have HF11 := Lib.hid hF11
      clear hF11
      obtain ⟨⟨cp0_12, cp1_12, cp2_12, cp3_12⟩, ⟨zp1_12, zp2_12, zp3_12⟩, hq_12, ⟨zr0_12, zr1_12, zr2_12, zr3_12⟩, hx_12, hz_12⟩ := HF11.out.cells
      obtain ⟨yr0_12, yr1_12, yr2_12, yr3_12⟩ := four_at hq_12
      clear hq_12 hx_12 hz_12
      go_wp2_with fail
      refine bodyPost_ret (v := .tuple #[.string ⟨#[]⟩, .bool false, .agg #[.bool true, .int .i64 l, .int .i64 k, .bool false]]) (by simp [results, Tryz.results36, go_sem, yr0_12, yr1_12, yr2_12, yr3_12]) rfl ?_
      exact .inr ⟨l, k, rfl, Lib.hid (FltAt.of HF11.out.at_ HLK.out (by rw [← HAQ.out]; simp [dm.nameM, HTOK.out, HV.out, HHD.out, H35.out]))⟩
    · have hz : ¬ (c.toNat : Int) = 35 := fun e => h35 (UInt8.toNat_inj.1 (by show c.toNat = 35; omega))
      have hb35 : ((c.toNat : Int) == 35) = false := beq_false_of_ne hz
      have hsb : o.isEmpty = false := by simpa using HON.out
      have HN35 : Hid (¬ (o = [] ∨ o.head? = some 35)) := Lib.hid (by rw [HHD.out]; simp [HON.out, h35])
      clear h35
      obtain ⟨W10, hW10, hF10⟩ := HF8.out.setp 1 (.int .i64 1) rfl
      have HF10 := Lib.hid hF10
      clear hF10
      obtain ⟨⟨cp0_11, cp1_11, cp2_11, cp3_11⟩, ⟨zp1_11, zp2_11, zp3_11⟩, hq_11, ⟨zr0_11, zr1_11, zr2_11, zr3_11⟩, hx_11, hz_11⟩ := HF10.out.cells
      obtain ⟨yr0_11, yr1_11, yr2_11, yr3_11⟩ := four_at hq_11
      clear hq_11 hx_11 hz_11
      have HBH := Lib.hid (behind74 P s hs aq 1 f W10 HF10.out.at_.sd (by omega) (by have := HAQ.out; omega))
      go_wp2_with fail
      refine HBH.out.mono ?_
      rintro e wb hB
      clear HFT
      clear cp0_7 cp1_7 cp2_7 cp3_7 zp1_7 zp2_7 zp3_7 zr0_7 zr1_7 zr2_7 zr3_7 yr0_7 yr1_7 yr2_7 yr3_7 hW8 cp0_9 cp1_9 cp2_9 cp3_9 zp1_9 zp2_9 zp3_9 zr0_9 zr1_9 zr2_9 zr3_9 yr0_9 yr1_9 yr2_9 yr3_9 hW10 cp0_11 cp1_11 cp2_11 cp3_11 zp1_11 zp2_11 zp3_11 zr0_11 zr1_11 zr2_11 zr3_11 yr0_11 yr1_11 yr2_11 yr3_11
      rcases hB with ⟨a', hm, rfl, hA⟩ | ⟨i, a', l2, k2, hm, hlk2, rfl, hA⟩
      · have HM := Lib.hid hm
        have HFC := Lib.hid (HF10.out.call hA.out)
        clear hA hm
        obtain ⟨⟨cp0_12, cp1_12, cp2_12, cp3_12⟩, ⟨zp1_12, zp2_12, zp3_12⟩, hq_12, ⟨zr0_12, zr1_12, zr2_12, zr3_12⟩, hx_12, hz_12⟩ := HFC.out.cells
        obtain ⟨yr0_12, yr1_12, yr2_12, yr3_12⟩ := four_at hq_12
        clear hq_12 hx_12 hz_12
        obtain ⟨W13, hW13, hF13⟩ := HFC.out.four rfl (.bool false) (.int .i64 0) (.int .i64 0) (.bool false)
        have HF13 := Lib.hid hF13
        clear hF13
        obtain ⟨⟨cp0_14, cp1_14, cp2_14, cp3_14⟩, ⟨zp1_14, zp2_14, zp3_14⟩, hq_14, ⟨zr0_14, zr1_14, zr2_14, zr3_14⟩, hx_14, hz_14⟩ := HF13.out.cells
        obtain ⟨yr0_14, yr1_14, yr2_14, yr3_14⟩ := four_at hq_14
        clear hq_14 hx_14 hz_14
        obtain ⟨W15, hW15, hF15⟩ := HF13.out.four rfl (.bool false) (.int .i64 0) (.int .i64 0) (.bool false)
        have HF15 := Lib.hid hF15
        clear hF15
        obtain ⟨⟨cp0_16, cp1_16, cp2_16, cp3_16⟩, ⟨zp1_16, zp2_16, zp3_16⟩, hq_16, ⟨zr0_16, zr1_16, zr2_16, zr3_16⟩, hx_16, hz_16⟩ := HF15.out.cells
        obtain ⟨yr0_16, yr1_16, yr2_16, yr3_16⟩ := four_at hq_16
        clear hq_16 hx_16 hz_16
        go_wp2_with fail
        go_region
        go_wp2_with fail
        refine bodyPost_ret (v := .tuple #[.string ⟨o.toArray⟩, .bool true, .agg #[.bool false, .int .i64 0, .int .i64 0, .bool false]]) (by simp [results, Tryz.results36, go_sem, yr0_16, yr1_16, yr2_16, yr3_16]) rfl ?_
        exact .inl ⟨o, a', 1, f, by have h1 := behind_part HM.out 0; rw [← HAQ.out] at h1; simp [dm.nameM, HTOK.out, HV.out, HN35.out, h1], rfl, Lib.hid (HF15.out.at_.quiet (But.drew (But.refl [] _)))⟩
      · have HM := Lib.hid hm
        have HLK2 := Lib.hid hlk2
        have HFC := Lib.hid (HF10.out.call hA.out)
        clear hA hm hlk2
        obtain ⟨⟨cp0_12, cp1_12, cp2_12, cp3_12⟩, ⟨zp1_12, zp2_12, zp3_12⟩, hq_12, ⟨zr0_12, zr1_12, zr2_12, zr3_12⟩, hx_12, hz_12⟩ := HFC.out.cells
        obtain ⟨yr0_12, yr1_12, yr2_12, yr3_12⟩ := four_at hq_12
        clear hq_12 hx_12 hz_12
        obtain ⟨W13, hW13, hF13⟩ := HFC.out.four rfl (.bool true) (.int .i64 l2) (.int .i64 k2) (.bool false)
        have HF13 := Lib.hid hF13
        clear hF13
        obtain ⟨⟨cp0_14, cp1_14, cp2_14, cp3_14⟩, ⟨zp1_14, zp2_14, zp3_14⟩, hq_14, ⟨zr0_14, zr1_14, zr2_14, zr3_14⟩, hx_14, hz_14⟩ := HF13.out.cells
        obtain ⟨yr0_14, yr1_14, yr2_14, yr3_14⟩ := four_at hq_14
        clear hq_14 hx_14 hz_14
        obtain ⟨W15, hW15, hF15⟩ := HF13.out.four rfl (.bool true) (.int .i64 l2) (.int .i64 k2) (.bool false)
        have HF15 := Lib.hid hF15
        clear hF15
        obtain ⟨⟨cp0_16, cp1_16, cp2_16, cp3_16⟩, ⟨zp1_16, zp2_16, zp3_16⟩, hq_16, ⟨zr0_16, zr1_16, zr2_16, zr3_16⟩, hx_16, hz_16⟩ := HF15.out.cells
        obtain ⟨yr0_16, yr1_16, yr2_16, yr3_16⟩ := four_at hq_16
        clear hq_16 hx_16 hz_16
        go_wp2_with fail
        go_region
        go_wp2_with fail
        refine bodyPost_ret (v := .tuple #[.string ⟨#[]⟩, .bool false, .agg #[.bool true, .int .i64 l2, .int .i64 k2, .bool false]]) (by simp [results, Tryz.results36, go_sem, yr0_16, yr1_16, yr2_16, yr3_16]) rfl ?_
        exact .inr ⟨l2, k2, rfl, Lib.hid (FltAt.of (p := 1) (HF15.out.at_.quiet (But.drew (But.refl [] _))) HLK2.out (by have h1 := behind_part HM.out 0; rw [← HAQ.out] at h1; simp [dm.nameM, HTOK.out, HV.out, HN35.out, h1, dm.flt, dm.M.bad]))⟩
end Go.Proofs.YtlcbcgillekphaaGreatDoor.sd
namespace Go.Proofs.YtlcbcgillekphaaGreatDoor.sd
open Go.RowKit Mem rw ent
set_option linter.unusedVariables false
set_option linter.unusedSimpArgs false

def EolOut (l : List UInt8) (w : World) (e : Ending) (w' : World) : Prop :=
  w' = w ∧ ((∃ n, dm.eol l = some n ∧ e = .returned (.tuple #[.int .i64 (n : Nat), .bool true])) ∨ (dm.eol l = none ∧ e = .returned (.tuple #[.int .i64 0, .bool false])))
theorem two_bytes {c : UInt8} {t : List UInt8} (h : t ≠ []) : ∃ (hh : 1 < (⟨(c :: t).toArray⟩ : ByteArray).size) (d : UInt8), (⟨(c :: t).toArray⟩ : ByteArray)[1]'hh = d ∧ ∃ r, t = d :: r := by
  cases t with
  | nil => exact absurd rfl h
  | cons d r => exact ⟨by simp [ByteArray.size], d, rfl, r, rfl⟩
set_option maxRecDepth 100000 in
set_option maxHeartbeats 1000000 in
theorem eol21 (l : List UInt8) (w : World) : Calls Tryz.prog 21 #[.string ⟨l.toArray⟩] w (EolOut l w) := by
  have hll : l.toArray.size = l.length := by simp
  by_cases hon : l = []
  · have hse : (⟨l.toArray⟩ : ByteArray) = ⟨#[]⟩ := by rw [hon]
    have HON := Lib.hid hon
    rw [hse]
    clear hon
    go_enter Tryz.func21, Tryz.ntmps21
    go_wp2_with fail
    go_returns
    exact ⟨rfl, .inl ⟨0, by rw [HON.out]; rfl, rfl⟩⟩
  obtain ⟨c, t, hct⟩ : ∃ c t, l = c :: t := by
    cases l with
    | nil => exact absurd rfl hon
    | cons c t => exact ⟨c, t, rfl⟩
  have hse := str_ne hon
  obtain ⟨hos, c', hc, hhd⟩ := first_byte hon
  have hcc : c' = c := by rw [hct] at hhd; simpa using hhd.symm
  subst hcc
  have hos0 : (0 : Int) < ((⟨l.toArray⟩ : ByteArray).size : Int) := by omega
  have hsz : (⟨l.toArray⟩ : ByteArray).size = t.length + 1 := by rw [hct]; simp [ByteArray.size]
  have hsb : l.isEmpty = false := by simpa using hon
  have HCT := Lib.hid hct
  have HSZ := Lib.hid hsz
  have hcb := c'.toNat_lt
  clear hon hhd hct hsz
  by_cases h10 : c' = 10
  · have hz : (c'.toNat : Int) = 10 := by rw [h10]; rfl
    have hb : ((c'.toNat : Int) == 10) = true := by rw [hz]; rfl
    have H10 := Lib.hid h10
    clear h10
    go_enter Tryz.func21, Tryz.ntmps21
    go_wp2_with fail
    go_returns
    exact ⟨rfl, .inl ⟨1, by rw [HCT.out, H10.out]; rfl, rfl⟩⟩
  have hz : ¬ (c'.toNat : Int) = 10 := fun e => h10 (UInt8.toNat_inj.1 (by show c'.toNat = 10; omega))
  have hb : ((c'.toNat : Int) == 10) = false := beq_false_of_ne hz
  have H10 := Lib.hid h10
  clear h10
  by_cases h13 : c' = 13
  rotate_left
  · have hz3 : ¬ (c'.toNat : Int) = 13 := fun e => h13 (UInt8.toNat_inj.1 (by show c'.toNat = 13; omega))
    have hb3 : ((c'.toNat : Int) != 13) = true := by simp [hz3]
    have hb4 : ((c'.toNat : Int) == 13) = false := beq_false_of_ne hz3
    have H13 := Lib.hid h13
    clear h13
    go_enter Tryz.func21, Tryz.ntmps21
    go_wp2_with fail
    go_returns
    exact ⟨rfl, .inr ⟨by rw [HCT.out]; simp [dm.eol, H10.out, H13.out], rfl⟩⟩
  have hz3 : (c'.toNat : Int) = 13 := by rw [h13]; rfl
  have hb3 : ((c'.toNat : Int) != 13) = false := by rw [hz3]; rfl
  have hb4 : ((c'.toNat : Int) == 13) = true := by rw [hz3]; rfl
  have H13 := Lib.hid h13
  clear h13
  have hsz := HSZ.out
  by_cases ht : t = []
  · have hs1 : ((⟨l.toArray⟩ : ByteArray).size : Int) = 1 := by rw [hsz, ht]; rfl
    have hs2 : (((⟨l.toArray⟩ : ByteArray).size : Int) == 1) = true := by rw [hs1]; rfl
    have hs3 : (l.length : Int) = 1 := hs1
    have hs4 : ((l.length : Int) == 1) = true := hs2
    have HT := Lib.hid ht
    clear ht hsz
    go_enter Tryz.func21, Tryz.ntmps21
    go_wp2_with fail
    go_returns
    exact ⟨rfl, .inl ⟨1, by rw [HCT.out, HT.out]; simp [dm.eol, H13.out], rfl⟩⟩
  obtain ⟨d, r, htd⟩ : ∃ d r, t = d :: r := by
    cases t with
    | nil => exact absurd rfl ht
    | cons d r => exact ⟨d, r, rfl⟩
  have hos1 : 1 < (⟨l.toArray⟩ : ByteArray).size := by rw [hsz, htd]; simp
  have hd : (⟨l.toArray⟩ : ByteArray)[1]'hos1 = d := by have hct := HCT.out; subst htd; subst hct; rfl
  have hs1 : ¬ ((⟨l.toArray⟩ : ByteArray).size : Int) = 1 := by omega
  have hs2 : (((⟨l.toArray⟩ : ByteArray).size : Int) == 1) = false := beq_false_of_ne hs1
  have hs3 : ¬ (l.length : Int) = 1 := hs1
  have hs4 : ((l.length : Int) == 1) = false := hs2
  have hs5 : (1 : Int) < (l.length : Int) := by have : (⟨l.toArray⟩ : ByteArray).size = l.length := by simp [ByteArray.size]
                                                omega
  have hos1' : (1 : Int) < ((⟨l.toArray⟩ : ByteArray).size : Int) := by omega
  have hdb := d.toNat_lt
  have HTD := Lib.hid htd
  clear htd ht hsz
  by_cases h2 : d = 10
  · have hy : (d.toNat : Int) = 10 := by rw [h2]; rfl
    have hyb : ((d.toNat : Int) == 10) = true := by rw [hy]; rfl
    have H2 := Lib.hid h2
    clear h2
    go_enter Tryz.func21, Tryz.ntmps21
    go_wp2_with fail
    go_returns
    exact ⟨rfl, .inl ⟨2, by rw [HCT.out, HTD.out]; simp [dm.eol, H13.out, H2.out], rfl⟩⟩
  · have hy : ¬ (d.toNat : Int) = 10 := fun e => h2 (UInt8.toNat_inj.1 (by show d.toNat = 10; omega))
    have hyb : ((d.toNat : Int) == 10) = false := beq_false_of_ne hy
    have H2 := Lib.hid h2
    clear h2
    go_enter Tryz.func21, Tryz.ntmps21
    go_wp2_with fail
    go_returns
    exact ⟨rfl, .inr ⟨by rw [HCT.out, HTD.out]; simp [dm.eol, H13.out, H2.out], rfl⟩⟩
end Go.Proofs.YtlcbcgillekphaaGreatDoor.sd
namespace Go.Proofs.YtlcbcgillekphaaGreatDoor.sd
open Go.RowKit Mem rw ent
set_option linter.unusedVariables false
set_option linter.unusedSimpArgs false


theorem FS.start2 {w : World} {P : Nat} {s : ByteArray} {a p f : Nat} (h : SD w P s a p f) (l : List Value) (T : TypeId) (hl : l ≠ []) :
    FS w P s (w.heap.size + 1) [.bool false, .int .i64 0, .int .i64 0, .bool false] w.heap.size l T a p f ((w.alloc (.cells l.toArray T)).alloc (.cells #[.bool false, .int .i64 0, .int .i64 0, .bool false] 39)) := by
  have hPl := Rw.lt h
  have hX := Rw.new w l T
  have hs1 : (w.alloc (.cells l.toArray T)).heap.size = w.heap.size + 1 := alloc_size _ _
  have hR := Rw.new (w.alloc (.cells l.toArray T)) [.bool false, .int .i64 0, .int .i64 0, .bool false] 39
  rw [hs1] at hR
  exact ⟨(At.refl h).quiet (((But.refl [] w).alloc _).alloc _), hR, fun _ => Rw.but hX ((But.refl [] _).alloc _) (by simp), by omega, Nat.le_refl _, by omega, by omega, by omega⟩
section
variable {w0 w : World} {P : Nat} {s : ByteArray} {R : Nat} {q : List Value} {X : Nat} {c : List Value} {T : TypeId} {a p f : Nat}
theorem FS.fault (hs : s.size ≤ 4000) (h : FS w0 P s R q X c T a p f w) {i l k : Nat} (hf : f ≤ i) (hi : i ≤ s.size) (hlk : dm.place s.data.toList f i = (l, k)) :
    Calls Tryz.prog 73 #[.pointer (some ⟨P, 0, none⟩), .int .i64 i] w fun e w' => e = .returned (.agg #[.bool true, .int .i64 (l : Nat), .int .i64 (k : Nat), .bool false]) ∧ Hid (FS w0 P s R q X c T a (badP p) f w') :=
  (fault' P s hs a p f w h.at_.sd i hf hi l k hlk).mono (by rintro e w' ⟨rfl, hA⟩; exact ⟨rfl, Lib.hid (h.call hA.out)⟩)
theorem FS.token (hs : s.size ≤ 4000) (h : FS w0 P s R q X c T a p f w) (ha : a ≤ s.size) (hf : f ≤ a) {k : Nat} (hk : k ≤ 4) {o : List UInt8} {n aq : Nat} (htok : dm.tok k (s.data.toList.drop a) = (o, n)) (haq : a + n = aq) {l m : Nat} (hlk : dm.place s.data.toList f a = (l, m)) :
    Calls Tryz.prog 72 #[.pointer (some ⟨P, 0, none⟩), .int .i64 k] w fun e w' =>
      (utf.V o = true ∧ e = .returned (.tuple #[.string ⟨o.toArray⟩, .agg #[.bool false, .int .i64 0, .int .i64 0, .bool false]]) ∧ Hid (FS w0 P s R q X c T aq p f w')) ∨
      (utf.V o = false ∧ e = .returned (.tuple #[.string ⟨#[]⟩, .agg #[.bool true, .int .i64 (l : Nat), .int .i64 (m : Nat), .bool false]]) ∧ Hid (FS w0 P s R q X c T aq (badP p) f w')) := by
  subst haq
  refine (token' P s hs a p f w h.at_.sd ha hf k hk o n htok l m hlk).mono ?_
  rintro e w' (⟨h1, rfl, hA⟩ | ⟨h1, rfl, hA⟩)
  · exact .inl ⟨h1, rfl, Lib.hid (h.call hA.out)⟩
  · exact .inr ⟨h1, rfl, Lib.hid (h.call hA.out)⟩
theorem FS.done (h : FS w0 P s R q X c T a p f w) {b : Bool} (hb : decide (s.size ≤ a) = b) :
    Calls Tryz.prog 35 #[.pointer (some ⟨P, 0, none⟩)] w fun e w' => e = .returned (.bool b) ∧ Hid (FS w0 P s R q X c T a p f w') :=
  hb ▸ (done35 P s a p f w h.at_.sd).mono (by rintro e w' ⟨rfl, n, rfl⟩; exact ⟨rfl, Lib.hid (h.drew n)⟩)
theorem FS.doneQ (h : FS w0 P s R q X c T a p f w) {b : Bool} (hb : decide (s.size ≤ a) = b) (n : Nat) :
    Calls Tryz.prog 35 #[.pointer (some ⟨P, 0, none⟩)] (w.drewN n) fun e w' => e = .returned (.bool b) ∧ ∃ n, w.drewN n = w' := sd.doneQ P s a p f w h.at_.sd b hb n
theorem FS.next (h : FS w0 P s R q X c T a p f w) {k : Nat} (hk : k ≤ 13) {b : Bool} (hb : sd.nx s.data.toList a k = b) :
    Calls Tryz.prog 71 #[.pointer (some ⟨P, 0, none⟩), .int .i64 k] w fun e w' => e = .returned (.bool b) ∧ Hid (FS w0 P s R q X c T a p f w') :=
  hb ▸ (next71 P s a p f w h.at_.sd k hk).mono (by rintro e w' ⟨rfl, n, rfl⟩; exact ⟨rfl, Lib.hid (h.drew n)⟩)
theorem FS.nextQ (h : FS w0 P s R q X c T a p f w) {k : Nat} (hk : k ≤ 13) {b : Bool} (hb : sd.nx s.data.toList a k = b) (n : Nat) :
    Calls Tryz.prog 71 #[.pointer (some ⟨P, 0, none⟩), .int .i64 k] (w.drewN n) fun e w' => e = .returned (.bool b) ∧ ∃ n, w.drewN n = w' := sd.nextQ P s a p f w h.at_.sd k hk b hb n
theorem FS.run (hs : s.size ≤ 4000) (h : FS w0 P s R q X c T a p f w) (ha : a ≤ s.size) {k : Nat} (hk : k ≤ 13) {n aq : Nat} (hn : n = dm.runN (dm.inS k) (s.data.toList.drop a)) (haq : a + n = aq) :
    Calls Tryz.prog 34 #[.pointer (some ⟨P, 0, none⟩), .int .i64 k] w fun e w' => e = .returned (.string ⟨((s.data.toList.drop a).take n).toArray⟩) ∧ Hid (FS w0 P s R q X c T aq p f w') := by
  subst haq
  exact (run34 P s hs a p f ha w h.at_.sd k hk n hn).mono (by rintro e w' ⟨rfl, hA⟩; exact ⟨rfl, Lib.hid (h.call hA.out)⟩)
theorem FS.behind (hs : s.size ≤ 4000) (h : FS w0 P s R q X c T a p f w) (ha : a ≤ s.size) (hf : f ≤ a) :
    Calls Tryz.prog 74 #[.pointer (some ⟨P, 0, none⟩)] w fun e w' =>
      (∃ a', Hid (dm.behindM s.data.toList ⟨a, p, f⟩ = (none, ⟨a', p, f⟩)) ∧ e = .returned (.agg #[.bool false, .int .i64 0, .int .i64 0, .bool false]) ∧ Hid (FS w0 P s R q X c T a' p f w')) ∨
      (∃ i a' l k, Hid (dm.behindM s.data.toList ⟨a, p, f⟩ = (some i, ⟨a', p, f⟩)) ∧ Hid (dm.place s.data.toList f i = (l, k)) ∧ e = .returned (.agg #[.bool true, .int .i64 (l : Nat), .int .i64 (k : Nat), .bool false]) ∧ Hid (FS w0 P s R q X c T a' (badP p) f w')) := by
  refine (behind74 P s hs a p f w h.at_.sd ha hf).mono ?_
  rintro e w' (⟨a', h1, rfl, hA⟩ | ⟨i, a', l, k, h1, h2, rfl, hA⟩)
  · exact .inl ⟨a', Lib.hid h1, rfl, Lib.hid (h.call hA.out)⟩
  · exact .inr ⟨i, a', l, k, Lib.hid h1, Lib.hid h2, rfl, Lib.hid (h.call hA.out)⟩
theorem FS.skip (h : FS w0 P s R q X c T a p f w) {t : Nat} (h0 : p ≠ 0) (h1 : p = 1 → t ≤ 1) (h2 : p = 2 → t ≤ 2) (h3 : p = 3 → t ≤ 3) :
    Calls Tryz.prog 33 #[.pointer (some ⟨P, 0, none⟩), .int .i64 t] w fun e w' => e = .returned (.agg #[.bool false, .int .i64 0, .int .i64 0, .bool false]) ∧ Hid (FS w0 P s R q X c T a p f w') :=
  (skip33 P s a p f w h.at_.sd t h0 h1 h2 h3).mono (by rintro e w' ⟨rfl, hb⟩; exact ⟨rfl, Lib.hid (h.quiet hb)⟩)
theorem FS.le_at (h : FS w0 P s R q X c T a p f w) {a' : Nat} (e : a = a') : FS w0 P s R q X c T a' p f w := e ▸ h
end
theorem tok_to {s : ByteArray} {a : Nat} (k : Nat) (ha : a ≤ s.size) : ∃ o n aq, Hid (dm.tok k (s.data.toList.drop a) = (o, n)) ∧ Hid (a + n = aq) ∧ a ≤ aq ∧ aq ≤ s.size := by
  obtain ⟨o, n, h⟩ : ∃ o n, dm.tok k (s.data.toList.drop a) = (o, n) := ⟨_, _, rfl⟩
  have := dm.tok_le k (s.data.toList.drop a)
  rw [h, List.length_drop] at this
  have hll : s.data.toList.length = s.size := by simp
  exact ⟨o, n, a + n, Lib.hid h, Lib.hid rfl, by omega, by omega⟩
theorem run_to {s : ByteArray} {a : Nat} (k : Nat) (ha : a ≤ s.size) : ∃ n aq, Hid (n = dm.runN (dm.inS k) (s.data.toList.drop a)) ∧ Hid (a + n = aq) ∧ a ≤ aq ∧ aq ≤ s.size := by
  have := dm.runN_le (dm.inS k) (s.data.toList.drop a)
  rw [List.length_drop] at this
  have hll : s.data.toList.length = s.size := by simp
  exact ⟨_, _, Lib.hid rfl, Lib.hid rfl, by omega, by omega⟩
theorem place_to (T : List UInt8) (f i : Nat) : ∃ l k, Hid (dm.place T f i = (l, k)) := ⟨_, _, Lib.hid rfl⟩
theorem cmpI {c : UInt8} {n : Nat} (hn : n < 256) (h : c = UInt8.ofNat n) : (c.toNat : Int) = (n : Int) := by
  subst h; simp [UInt8.toNat_ofNat]; omega
theorem cmpN {c : UInt8} {n : Nat} (hn : n < 256) (h : ¬ c = UInt8.ofNat n) : ¬ (c.toNat : Int) = (n : Int) := fun e => h (UInt8.toNat_inj.1 (by rw [UInt8.toNat_ofNat']; omega))
end Go.Proofs.YtlcbcgillekphaaGreatDoor.sd
