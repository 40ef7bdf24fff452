/-
  Proved: the contracts of the reference's decoder: NewDecoder, done, next, run · the contracts of the reference's decoder: run, place, fault · the contracts of the reference's decoder: token, behind.
  Conditions: each law's own; a text of at most 4000 bytes where one is read.
-/
import Derived.Test.YtlcbcgillekphaaGreatDoorSpt
import Derived.Deep.QuietTactic
import Derived.BigQuiet
import Derived.Deep.RegionHeld3
import Derived.Test.YtlcbcgillekphaaGreatDoorGi
import Derived.Handy
import Derived.Test.YtlcbcgillekphaaGreatDoorUtfS
namespace Go.Proofs.YtlcbcgillekphaaGreatDoor.sd
open Go.RowKit Mem rw
set_option linter.unusedVariables false
set_option linter.unusedSimpArgs false

/-- The reference's decoder lies at P: where it stands, what is due, where the entry begins. -/
def SD (w : World) (P : Nat) (s : ByteArray) (a p f : Nat) : Prop := Rw w P [.string s, .int .i64 a, .int .i64 p, .int .i64 f] 78
theorem SD.cells {w : World} {P : Nat} {s : ByteArray} {a p f : Nat} (h : SD w P s a p f) :
    w.cell? ⟨P, 0, none⟩ = some (.string s) ∧ w.cell? ⟨P, 1, none⟩ = some (.int .i64 a) ∧ w.cell? ⟨P, 2, none⟩ = some (.int .i64 p) ∧ w.cell? ⟨P, 3, none⟩ = some (.int .i64 f) :=
  ⟨Rw.cell h 0, Rw.cell h 1, Rw.cell h 2, Rw.cell h 3⟩
theorem SD.fz {w : World} {P : Nat} {s : ByteArray} {a p f : Nat} (h : SD w P s a p f) (j : Nat) : w.frozen? ⟨P, j, none⟩ = false := Rw.fz h j
theorem SD.at_ {w : World} {P : Nat} {s : ByteArray} {a p f : Nat} (h : SD w P s a p f) (a' : Nat) : SD (w.setCell ⟨P, 1, none⟩ (.int .i64 a')) P s a' p f := Rw.set h 1 (.int .i64 a')
theorem SD.part {w : World} {P : Nat} {s : ByteArray} {a p f : Nat} (h : SD w P s a p f) (p' : Nat) : SD (w.setCell ⟨P, 2, none⟩ (.int .i64 p')) P s a p' f := Rw.set h 2 (.int .i64 p')
theorem SD.but {S : List Nat} {w w' : World} {P : Nat} {s : ByteArray} {a p f : Nat} (h : SD w P s a p f) (hb : But S w w') (hn : P ∉ S) : SD w' P s a p f := Rw.but h hb hn
theorem new17 (s : ByteArray) (w : World) :
    Calls Tryz.prog 17 #[.string s] w fun e w' => e = .returned (.pointer (some ⟨w.heap.size, 0, none⟩)) ∧ SD w' w.heap.size s 0 5 0 ∧ But [] w w' := by
  go_enter Tryz.func17, Tryz.ntmps17
  go_wp2
  go_ret
  exact ⟨rfl, Rw.new w [.string s, .int .i64 0, .int .i64 5, .int .i64 0] 78, (But.refl _ w).alloc _⟩
theorem done35 (P : Nat) (s : ByteArray) (a p f : Nat) (w : World) (h : SD w P s a p f) :
    Calls Tryz.prog 35 #[.pointer (some ⟨P, 0, none⟩)] w fun e w' => e = .returned (.bool (decide (s.size ≤ a))) ∧ ∃ n, w.drewN n = w' := by
  obtain ⟨c0, c1, c2, c3⟩ := h.cells
  clear h
  go_enter Tryz.func35, Tryz.ntmps35
  go_wp2
  go_quiet (fail)
  go_wp2
  go_ret
  exact ⟨rfl, _, rfl⟩
/-- The byte at a place is of a set. -/
def nx (T : List UInt8) (a k : Nat) : Bool := match T[a]? with | none => false | some c => dm.inS k c
theorem next71 (P : Nat) (s : ByteArray) (a p f : Nat) (w : World) (h : SD w P s a p f) (k : Nat) (hk : k ≤ 13) :
    Calls Tryz.prog 71 #[.pointer (some ⟨P, 0, none⟩), .int .i64 k] w fun e w' => e = .returned (.bool (nx s.data.toList a k)) ∧ ∃ n, w.drewN n = w' := by
  obtain ⟨c0, c1, c2, c3⟩ := h.cells
  by_cases hlt : a < s.size
  · have hi : (a : Int) < (s.size : Int) := by omega
    obtain ⟨c, hc⟩ : ∃ c, s[a]'hlt = c := ⟨_, rfl⟩
    have hn : nx s.data.toList a k = dm.inS k c := by
      unfold nx
      have hl : a < s.data.toList.length := by simpa using hlt
      rw [List.getElem?_eq_getElem hl]
      have : s.data.toList[a] = c := hc
      rw [this]
    have HIN := Lib.hid (spe.in12 k hk c)
    rw [hn]
    clear h hn
    go_enter Tryz.func71, Tryz.ntmps71
    go_wp2
    go_quiet ((go_at_call 20; (with_reducible refine (HIN.out _).mono ?_); rintro e w2 ⟨rfl, rfl⟩; exact ⟨rfl, _, rfl⟩))
    go_wp2
    go_ret
    exact ⟨rfl, _, rfl⟩
  · have hi : ¬ (a : Int) < (s.size : Int) := by omega
    have hn : nx s.data.toList a k = false := by
      unfold nx
      have hl : s.data.toList.length ≤ a := by simp; omega
      rw [List.getElem?_eq_none hl]
    rw [hn]
    clear h hn
    go_enter Tryz.func71, Tryz.ntmps71
    go_wp2
    go_quiet (fail)
    go_wp2
    go_ret
    exact ⟨rfl, _, rfl⟩
end Go.Proofs.YtlcbcgillekphaaGreatDoor.sd
namespace Go.Proofs.YtlcbcgillekphaaGreatDoor.sd
open Go.RowKit Mem rw
set_option linter.unusedVariables false
set_option linter.unusedSimpArgs false

/-- The reference's decoder lies at P and stands at m; all else is as it was in w0. -/
structure At (w0 : World) (P : Nat) (s : ByteArray) (a p f : Nat) (w : World) : Prop where
  sd : SD w P s a p f
  but : But [P] w0 w
theorem At.refl {w : World} {P : Nat} {s : ByteArray} {a p f : Nat} (h : SD w P s a p f) : At w P s a p f w := ⟨h, But.refl _ _⟩
theorem At.quiet {w0 w w' : World} {P : Nat} {s : ByteArray} {a p f : Nat} (h : At w0 P s a p f w) (hb : But [] w w') : At w0 P s a p f w' :=
  ⟨h.sd.but hb (by simp), h.but.trans (hb.mono (by simp))⟩
theorem At.set {w0 w : World} {P : Nat} {s : ByteArray} {a p f : Nat} (h : At w0 P s a p f w) (a' : Nat) : At w0 P s a' p f (w.setCell ⟨P, 1, none⟩ (.int .i64 a')) :=
  ⟨h.sd.at_ a', h.but.setCell (Or.inl (by simp)) _⟩
theorem At.setp {w0 w : World} {P : Nat} {s : ByteArray} {a p f : Nat} (h : At w0 P s a p f w) (p' : Nat) : At w0 P s a p' f (w.setCell ⟨P, 2, none⟩ (.int .i64 p')) :=
  ⟨h.sd.part p', h.but.setCell (Or.inl (by simp)) _⟩
theorem At.trans {w0 w w' : World} {P : Nat} {s : ByteArray} {a p f a' p' f' : Nat} (h : At w0 P s a p f w) (k : At w P s a' p' f' w') : At w0 P s a' p' f' w' := ⟨k.sd, h.but.trans k.but⟩
theorem ext_between (s : ByteArray) (a n : Nat) (h : a + n ≤ s.size) : s.extract a (a + n) = ⟨((s.data.toList.drop a).take n).toArray⟩ := by
  have : (s.extract a (a + n)).data.toList = (s.data.toList.drop a).take n := by
    rw [ByteArray.data_extract, Array.toList_extract]
    simp [List.extract, List.take_drop, Nat.add_sub_cancel_left]
  cases h2 : s.extract a (a + n) with
  | mk d => rw [h2] at this; simp only at this; rw [← this]
set_option maxRecDepth 100000 in
set_option maxHeartbeats 1000000 in
theorem run34 (P : Nat) (s : ByteArray) (hs : s.size ≤ 4000) (a p f : Nat) (ha : a ≤ s.size) (w : World) (h : SD w P s a p f) (k : Nat) (hk : k ≤ 13) (n : Nat) (hn : n = dm.runN (dm.inS k) (s.data.toList.drop a)) :
    Calls Tryz.prog 34 #[.pointer (some ⟨P, 0, none⟩), .int .i64 k] w fun e w' => e = .returned (.string ⟨((s.data.toList.drop a).take n).toArray⟩) ∧ Hid (At w P s (a + n) p f w') := by
  have hll : s.data.toList.length = s.size := by simp
  have hnl : a + n ≤ s.size := by have := dm.runN_le (dm.inS k) (s.data.toList.drop a); rw [List.length_drop] at this; omega
  obtain ⟨c0, c1, c2, c3⟩ := h.cells
  have H0 : Hid (At w P s (a + 0) p f w ∧ dec.Run s.data.toList (dm.inS k) a 0) := Lib.hid ⟨At.refl h, dec.Run.zero _ _ _⟩
  have HN := Lib.hid hn
  clear h hn
  go_enter Tryz.func34, Tryz.ntmps34
  go_wp2_with fail
  go_loopg [] (s.size - a) (fun g wr => ∃ j : Nat, g = s.size - (a + j) ∧ a + j ≤ s.size ∧ Hid (At w P s (a + j) p f wr ∧ dec.Run s.data.toList (dm.inS k) a j))
  case atStart => exact ⟨0, by omega, by omega, H0⟩
  case round =>
    obtain ⟨j, hg, hj, hI⟩ := hrel
    clear H0 c0 c1 c2 c3
    have HX := Lib.hid (next71 P s (a + j) p f wr hI.out.1.sd k hk)
    obtain ⟨b, hb⟩ : ∃ b, nx s.data.toList (a + j) k = b := ⟨_, rfl⟩
    rw [hb] at HX
    have HB := Lib.hid hb
    clear hb
    cases b with
    | true =>
      have hlt : a + j < s.size := by
        have h1 := HB.out
        unfold nx at h1
        rcases Nat.lt_or_ge (a + j) s.size with h2 | h2
        · exact h2
        · rw [List.getElem?_eq_none (by omega)] at h1; cases h1
      have hrun : dec.Run s.data.toList (dm.inS k) a (j + 1) := by
        refine hI.out.2.one (by omega) ?_
        have h1 := HB.out
        unfold nx at h1
        rw [List.getD_eq_getElem?_getD]
        rw [List.getElem?_eq_getElem (by omega)] at h1 ⊢
        exact h1
      have hR := Lib.hid hrun
      clear hrun
      go_wp2_with fail
      refine HX.out.mono ?_
      rintro e w2 ⟨rfl, q, rfl⟩
      have hA := hI.out.1.quiet (But.drewN (n := q) (But.refl [] wr))
      obtain ⟨d0, d1, d2, d3⟩ := hA.sd.cells
      have z1 := hA.sd.fz 1
      have hA2 := hA.set (a + j + 1)
      have HF := Lib.hid (And.intro hA2 hR.out)
      have hw : IntKind.i64.wrap (((a + j : Nat) : Int) + 1) = ((a + j + 1 : Nat) : Int) := by rw [IntKind.wrap_i64]; omega
      clear hA hA2 hI HX
      go_wp2_with fail
      go_roundg (s.size - (a + (j + 1)))
      case measure => omega
      case rel => exact ⟨j + 1, rfl, by omega, HF⟩
    | false =>
      have hfin : j = n := by
        rw [HN.out]
        symm
        refine hI.out.2.runN ?_ (by omega)
        have h1 := HB.out
        unfold nx at h1
        rcases Nat.lt_or_ge (a + j) s.size with h2 | h2
        · rw [List.getElem?_eq_getElem (by omega)] at h1
          exact .inr ⟨by omega, by rw [List.getD_eq_getElem?_getD, List.getElem?_eq_getElem (by omega)]; exact h1⟩
        · exact .inl (by omega)
      subst hfin
      go_wp2_with fail
      refine HX.out.mono ?_
      rintro e w2 ⟨rfl, q, rfl⟩
      have hA := hI.out.1.quiet (But.drewN (n := q) (But.refl [] wr))
      obtain ⟨d0, d1, d2, d3⟩ := hI.out.1.sd.cells
      have HA := Lib.hid hA
      have hle1 : (a : Int) ≤ ((a + j : Nat) : Int) := by omega
      have hle2 : ((a + j : Nat) : Int) ≤ (s.size : Int) := by omega
      have HE := Lib.hid (ext_between s a j (by omega))
      clear hA hI HX
      go_wp2_with fail
      go_quiet (fail)
      go_wp2_with fail
      go_ret
      refine ⟨?_, Lib.hid (HA.out.quiet ((But.refl [] _).drewN))⟩
      rw [← HE.out]
      rfl

theorem fst_at (T : List UInt8) (f i : Nat) : dm.colF ((T.take i).drop f) ≤ i - f := by
  have := dm.colF_le ((T.take i).drop f)
  simp at this
  omega
set_option maxRecDepth 100000 in
set_option maxHeartbeats 1000000 in
theorem place89 (P : Nat) (s : ByteArray) (hs : s.size ≤ 4000) (a p f : Nat) (w : World) (h : SD w P s a p f) (i : Nat) (hf : f ≤ i) (hi : i ≤ s.size) :
    Calls Tryz.prog 89 #[.pointer (some ⟨P, 0, none⟩), .int .i64 i] w fun e w' => e = .returned (.agg #[.bool true, .int .i64 ((dm.place s.data.toList f i).1 : Nat), .int .i64 ((dm.place s.data.toList f i).2 : Nat), .bool false]) ∧ But [] w w' := by
  have hll : s.data.toList.length = s.size := by simp
  obtain ⟨ln, hln⟩ : ∃ ln, dm.breaks (s.data.toList.take i) = ln := ⟨_, rfl⟩
  obtain ⟨cl, hcl⟩ : ∃ cl, dm.colF ((s.data.toList.take i).drop f) = cl := ⟨_, rfl⟩
  have e1 : (dm.place s.data.toList f i).1 = 1 + ln := by rw [← hln]; rfl
  have e2 : (dm.place s.data.toList f i).2 = cl + 1 := by rw [← hcl]; rfl
  rw [e1, e2]
  have hlnb : ln ≤ i := by rw [← hln]; have := dm.breaks_le (s.data.toList.take i); rw [List.length_take] at this; omega
  have hclb : cl ≤ i - f := by rw [← hcl]; exact fst_at _ _ _
  obtain ⟨W, hW⟩ : ∃ W, w.alloc (.cells #[.bool false, .int .i64 0, .int .i64 0, .bool false] 39) = W := ⟨_, rfl⟩
  have hb : But [] w W := hW ▸ (But.refl [] w).alloc _
  obtain ⟨c0, c1, c2, c3⟩ := (h.but hb (by simp)).cells
  have HS := Lib.hid h.cells
  have HW := Lib.hid (And.intro hW hb)
  have HC := Lib.hid hcl
  have hx : s.extract 0 i = ⟨(s.data.toList.take i).toArray⟩ := by
    have := ext_between s 0 i (by omega)
    simpa using this
  have HB := Lib.hid (spe.breaks8 (s.extract 0 i) (by rw [ByteArray.size_extract]; omega))
  have hbx : dm.breaks (s.extract 0 i).data.toList = ln := by rw [hx, ← hln]
  rw [hbx] at HB
  clear h hb hcl hln e1 e2 hx hbx
  go_enter Tryz.func89, Tryz.ntmps89
  go_wp2_with fail
  go_loopg [5, 6] (i - f) (fun g s5 s6 wr => ∃ j : Nat, j + g = i ∧ f ≤ j ∧ s6 = .int .i64 j ∧ W = wr ∧ ∃ c : Nat, c ≤ j - f ∧ s5 = .int .i64 ((j - c : Nat) : Int) ∧ Hid (dm.colF ((s.data.toList.take j).drop f) = c))
  case atStart => exact ⟨f, by omega, Nat.le_refl _, rfl, rfl, 0, by omega, by simp, Lib.hid (by rw [List.drop_eq_nil_of_le (by simp; omega)]; rfl)⟩
  case round =>
    obtain ⟨j, hj, hfj, rfl, rfl, c, hc, rfl, HK⟩ := hrel
    cases gk with
    | zero =>
      have hij : ¬ (j : Int) < (i : Int) := by omega
      have hcc : c = cl := by rw [← HK.out, ← HC.out, show j = i by omega]
      have hjc : (i : Int) ≤ (s.size : Int) := by omega
      have hw : IntKind.i64.wrap ((i : Int) - ((j - c : Nat) : Int)) = (cl : Int) := by rw [IntKind.wrap_i64]; omega
      have hln0 : (0 : Int) ≤ (ln : Int) := by omega
      clear hcc hj c0 c1 c2 c3
      subst hW
      obtain ⟨c0, c1, c2, c3⟩ := HS.out
      have hPl : P < w.heap.size := block_lt_of_cell c0
      go_wp2_with fail
      refine (HB.out _).mono ?_
      rintro e w2 ⟨rfl, rfl⟩
      go_wp2_with fail
      go_returns
      refine ⟨?_, (But.refl [] w).alloc _⟩
      rw [show ((1 + ln : Nat) : Int) = 1 + (ln : Int) by omega, show ((cl + 1 : Nat) : Int) = (cl : Int) + 1 by omega]
    | succ g =>
      have hij : (j : Int) < (i : Int) := by omega
      have hjl : (j : Int) < (s.size : Int) := by omega
      have hlt : j < s.size := by omega
      have hnext : dm.colF ((s.data.toList.take (j + 1)).drop f) = if s[j]'hlt = 10 then 0 else c + 1 := by
        rw [List.take_succ_eq_append_getElem (by omega), List.drop_append_of_le_length (by simp; omega), dm.colF_snoc, HK.out]
        rfl
      generalize hd : s[j]'hlt = d at *
      have HN := Lib.hid hnext
      have hdb := d.toNat_lt
      clear hnext
      by_cases h10 : d = 10
      · have hx10 : (d.toNat : Int) = 10 := by rw [h10]; rfl
        have h1 := HN.out
        rw [if_pos h10] at h1
        have H1 := Lib.hid h1
        clear h1 h10
        go_wp2_with fail
        go_roundg g
        case measure => omega
        case rel => exact ⟨j + 1, by omega, by omega, by go_num, rfl, 0, by omega, by go_num, H1⟩
      · have hx10 : ¬ (d.toNat : Int) = 10 := fun e => h10 (UInt8.toNat_inj.1 (by show d.toNat = 10; omega))
        have h1 := HN.out
        rw [if_neg h10] at h1
        have H1 := Lib.hid h1
        have hcj : j + 1 - (c + 1) = j - c := by omega
        clear h1 h10
        go_wp2_with fail
        go_roundg g
        case measure => omega
        case rel => exact ⟨j + 1, by omega, by omega, by go_num, rfl, c + 1, by omega, by rw [hcj], H1⟩

/-- The value of a fault. -/
def fltV (q : Nat × Nat) : Value := .agg #[.bool true, .int .i64 q.1, .int .i64 q.2, .bool false]
def badP (p : Nat) : Nat := if p = 5 then 5 else 4
set_option maxRecDepth 100000 in
theorem fault73 (P : Nat) (s : ByteArray) (hs : s.size ≤ 4000) (a p f : Nat) (w : World) (h : SD w P s a p f) (i : Nat) (hf : f ≤ i) (hi : i ≤ s.size) :
    Calls Tryz.prog 73 #[.pointer (some ⟨P, 0, none⟩), .int .i64 i] w fun e w' => e = .returned (fltV (dm.place s.data.toList f i)) ∧ Hid (At w P s a (badP p) f w') := by
  obtain ⟨l, hl⟩ : ∃ l, (dm.place s.data.toList f i).1 = l := ⟨_, rfl⟩
  obtain ⟨k, hk⟩ : ∃ k, (dm.place s.data.toList f i).2 = k := ⟨_, rfl⟩
  have e1 : fltV (dm.place s.data.toList f i) = .agg #[.bool true, .int .i64 l, .int .i64 k, .bool false] := by unfold fltV; rw [hl, hk]
  rw [e1]
  obtain ⟨W, hW⟩ : ∃ W, w.alloc (.cells #[.bool false, .int .i64 0, .int .i64 0, .bool false] 39) = W := ⟨_, rfl⟩
  have hb : But [] w W := hW ▸ (But.refl [] w).alloc _
  have hR : Rw W w.heap.size [.bool false, .int .i64 0, .int .i64 0, .bool false] 39 := hW ▸ Rw.new w _ _
  have hPl := Rw.lt h
  have hfin : ∀ W1 w2, At w P s a (badP p) f W1 → Rw W1 w.heap.size [.bool false, .int .i64 0, .int .i64 0, .bool false] 39 → But [] W1 w2 →
      (∀ j, w2.frozen? ⟨w.heap.size, j, none⟩ = false) ∧ (∃ W3, (((w2.setCell ⟨w.heap.size, 0, none⟩ (.bool true)).setCell ⟨w.heap.size, 1, none⟩ (.int .i64 l)).setCell ⟨w.heap.size, 2, none⟩ (.int .i64 k)).setCell ⟨w.heap.size, 3, none⟩ (.bool false) = W3 ∧
        W3.cell? ⟨w.heap.size, 0, none⟩ = some (.bool true) ∧ W3.cell? ⟨w.heap.size, 1, none⟩ = some (.int .i64 l) ∧ W3.cell? ⟨w.heap.size, 2, none⟩ = some (.int .i64 k) ∧ W3.cell? ⟨w.heap.size, 3, none⟩ = some (.bool false) ∧ At w P s a (badP p) f W3) := fun W1 w2 h1 h2 h3 => by
    have r2 := Rw.but h2 h3 (by simp)
    have r3 := Rw.set (Rw.set (Rw.set (Rw.set r2 0 (.bool true)) 1 (.int .i64 l)) 2 (.int .i64 k)) 3 (.bool false)
    have b3 := (((((h1.quiet h3).but).setCell (p := ⟨w.heap.size, 0, none⟩) (Or.inr (Nat.le_refl _)) (.bool true)).setCell (p := ⟨w.heap.size, 1, none⟩) (Or.inr (Nat.le_refl _)) (.int .i64 l)).setCell (p := ⟨w.heap.size, 2, none⟩) (Or.inr (Nat.le_refl _)) (.int .i64 k)).setCell (p := ⟨w.heap.size, 3, none⟩) (Or.inr (Nat.le_refl _)) (.bool false)
    have s3 : But [w.heap.size] w2 _ := ((((But.refl [w.heap.size] w2).setCell (p := ⟨w.heap.size, 0, none⟩) (Or.inl (by simp)) (.bool true)).setCell (p := ⟨w.heap.size, 1, none⟩) (Or.inl (by simp)) (.int .i64 l)).setCell (p := ⟨w.heap.size, 2, none⟩) (Or.inl (by simp)) (.int .i64 k)).setCell (p := ⟨w.heap.size, 3, none⟩) (Or.inl (by simp)) (.bool false)
    refine ⟨fun j => Rw.fz r2 j, _, rfl, Rw.cell r3 0, Rw.cell r3 1, Rw.cell r3 2, Rw.cell r3 3, (h1.quiet h3).sd.but s3 (by simp; omega), b3⟩
  have HFIN := Lib.hid hfin
  have hA := At.quiet (At.refl h) hb
  obtain ⟨c0, c1, c2, c3⟩ := hA.sd.cells
  have z2 := hA.sd.fz 2
  by_cases h5 : p = 5
  · have h5z : (p : Int) = 5 := by omega
    have hA2 : At w P s a (badP p) f W := by rw [show badP p = p by unfold badP; rw [if_pos h5, h5]]; exact hA
    have HP := Lib.hid (place89 P s hs a p f W hA.sd i hf hi)
    rw [hl, hk] at HP
    have H2 := Lib.hid (And.intro hA2 hR)
    clear hfin hA hA2 hR hb h5 h e1 hl hk
    go_enter Tryz.func73, Tryz.ntmps73
    go_wp2_with fail
    refine HP.out.mono ?_
    rintro e w2 ⟨rfl, hb2⟩
    obtain ⟨zz, W3, hW3, d0, d1, d2, d3, hA3⟩ := HFIN.out W w2 H2.out.1 H2.out.2 hb2
    have hr2 := Rw.but H2.out.2 hb2 (by simp)
    have y0 := Rw.cell hr2 0
    have y1 := Rw.cell hr2 1
    have y2 := Rw.cell hr2 2
    have y3 := Rw.cell hr2 3
    simp only [List.getElem?_cons_zero, List.getElem?_cons_succ] at y0 y1 y2 y3
    have z0 := zz 0
    have z1 := zz 1
    have z2' := zz 2
    have z3 := zz 3
    have HA3 := Lib.hid hA3
    clear hb2 hA3 zz hr2 hW c0 c1 c2 c3 z2
    go_wp2_with fail
    refine bodyPost_ret (v := .agg #[.bool true, .int .i64 l, .int .i64 k, .bool false]) (by simp [results, Tryz.results73, go_sem, d0, d1, d2, d3]) rfl ?_
    exact ⟨rfl, HA3⟩
  · have h5z : ¬ (p : Int) = 5 := by omega
    have hA2 : At w P s a (badP p) f (W.setCell ⟨P, 2, none⟩ (.int .i64 (4 : Nat))) := by rw [show badP p = 4 by unfold badP; rw [if_neg h5]]; exact hA.setp 4
    obtain ⟨W1, hW1⟩ : ∃ W1, W.setCell ⟨P, 2, none⟩ (.int .i64 4) = W1 := ⟨_, rfl⟩
    have hR1 := Rw.but hR ((But.refl [P] W).setCell (p := ⟨P, 2, none⟩) (Or.inl (by simp)) (.int .i64 4)) (by simp; omega)
    rw [hW1] at hR1
    have hA2 : At w P s a (badP p) f W1 := by rw [← hW1]; exact hA2
    have HP := Lib.hid (place89 P s hs a (badP p) f W1 hA2.sd i hf hi)
    rw [hl, hk] at HP
    have H2 := Lib.hid (And.intro hA2 hR1)
    clear hfin hA hA2 hR hR1 hb h5 h e1 hl hk
    go_enter Tryz.func73, Tryz.ntmps73
    go_wp2_with fail
    refine HP.out.mono ?_
    rintro e w2 ⟨rfl, hb2⟩
    obtain ⟨zz, W3, hW3, d0, d1, d2, d3, hA3⟩ := HFIN.out W1 w2 H2.out.1 H2.out.2 hb2
    have hr2 := Rw.but H2.out.2 hb2 (by simp)
    have y0 := Rw.cell hr2 0
    have y1 := Rw.cell hr2 1
    have y2 := Rw.cell hr2 2
    have y3 := Rw.cell hr2 3
    simp only [List.getElem?_cons_zero, List.getElem?_cons_succ] at y0 y1 y2 y3
    have z0 := zz 0
    have z1 := zz 1
    have z2' := zz 2
    have z3 := zz 3
    have HA3 := Lib.hid hA3
    clear hb2 hA3 zz hr2 hW hW1 c0 c1 c2 c3 z2
    go_wp2_with fail
    refine bodyPost_ret (v := .agg #[.bool true, .int .i64 l, .int .i64 k, .bool false]) (by simp [results, Tryz.results73, go_sem, d0, d1, d2, d3]) rfl ?_
    exact ⟨rfl, HA3⟩

/-- A store of four cells into a block of one's own. -/
theorem put4 {w0 w : World} {P : Nat} {s : ByteArray} {a p f R : Nat} {u0 u1 u2 u3 : Value} {T : TypeId} (h : At w0 P s a p f w) (hR : Rw w R [u0, u1, u2, u3] T) (h0 : w0.heap.size ≤ R) (hP : P ≠ R) (v0 v1 v2 v3 : Value) :
    ∃ W, (((w.setCell ⟨R, 0, none⟩ v0).setCell ⟨R, 1, none⟩ v1).setCell ⟨R, 2, none⟩ v2).setCell ⟨R, 3, none⟩ v3 = W ∧ At w0 P s a p f W ∧ Rw W R [v0, v1, v2, v3] T ∧ But [R] w W := by
  have r3 := Rw.set (Rw.set (Rw.set (Rw.set hR 0 v0) 1 v1) 2 v2) 3 v3
  have b3 := ((((h.but).setCell (p := ⟨R, 0, none⟩) (Or.inr h0) v0).setCell (p := ⟨R, 1, none⟩) (Or.inr h0) v1).setCell (p := ⟨R, 2, none⟩) (Or.inr h0) v2).setCell (p := ⟨R, 3, none⟩) (Or.inr h0) v3
  have s3 : But [R] w _ := ((((But.refl [R] w).setCell (p := ⟨R, 0, none⟩) (Or.inl (by simp)) v0).setCell (p := ⟨R, 1, none⟩) (Or.inl (by simp)) v1).setCell (p := ⟨R, 2, none⟩) (Or.inl (by simp)) v2).setCell (p := ⟨R, 3, none⟩) (Or.inl (by simp)) v3
  exact ⟨_, rfl, ⟨h.sd.but s3 (by simpa using hP), b3⟩, r3, s3⟩
theorem Rw.four {w : World} {R : Nat} {v0 v1 v2 v3 : Value} {T : TypeId} (h : Rw w R [v0, v1, v2, v3] T) :
    (w.cell? ⟨R, 0, none⟩ = some v0 ∧ w.cell? ⟨R, 1, none⟩ = some v1 ∧ w.cell? ⟨R, 2, none⟩ = some v2 ∧ w.cell? ⟨R, 3, none⟩ = some v3) ∧ w.frozen? ⟨R, 0, none⟩ = false ∧ w.frozen? ⟨R, 1, none⟩ = false ∧ w.frozen? ⟨R, 2, none⟩ = false ∧ w.frozen? ⟨R, 3, none⟩ = false :=
  ⟨⟨Rw.cell h 0, Rw.cell h 1, Rw.cell h 2, Rw.cell h 3⟩, Rw.fz h 0, Rw.fz h 1, Rw.fz h 2, Rw.fz h 3⟩
end Go.Proofs.YtlcbcgillekphaaGreatDoor.sd
namespace Go.Proofs.YtlcbcgillekphaaGreatDoor.sd
open Go.RowKit Mem rw
set_option linter.unusedVariables false
set_option linter.unusedSimpArgs false

theorem drop_ext' (s : ByteArray) (n : Nat) : (s.extract n s.size).data.toList = s.data.toList.drop n := by
  rw [ByteArray.data_extract, Array.toList_extract]
  simp [List.extract, List.take_of_length_le]
/-- What token tells. -/
def TkOut (P : Nat) (s : ByteArray) (a p f k : Nat) (w : World) (e : Ending) (w' : World) : Prop :=
  (utf.V (dm.tok k (s.data.toList.drop a)).1 = true ∧ e = .returned (.tuple #[.string ⟨(dm.tok k (s.data.toList.drop a)).1.toArray⟩, .agg #[.bool false, .int .i64 0, .int .i64 0, .bool false]]) ∧ Hid (At w P s (a + (dm.tok k (s.data.toList.drop a)).2) p f w')) ∨
  (utf.V (dm.tok k (s.data.toList.drop a)).1 = false ∧ e = .returned (.tuple #[.string ⟨#[]⟩, fltV (dm.place s.data.toList f a)]) ∧ Hid (At w P s (a + (dm.tok k (s.data.toList.drop a)).2) (badP p) f w'))
set_option maxRecDepth 100000 in
set_option maxHeartbeats 1000000 in
theorem token72 (P : Nat) (s : ByteArray) (hs : s.size ≤ 4000) (a p f : Nat) (w : World) (h : SD w P s a p f) (ha : a ≤ s.size) (hf : f ≤ a) (k : Nat) (hk : k ≤ 4) :
    Calls Tryz.prog 72 #[.pointer (some ⟨P, 0, none⟩), .int .i64 k] w (TkOut P s a p f k w) := by
  obtain ⟨o, q, htok⟩ : ∃ o q, dm.tok k (s.data.toList.drop a) = (o, q) := ⟨_, _, rfl⟩
  have hq : a + q ≤ s.size := by
    have := dm.tok_le k (s.data.toList.drop a)
    rw [htok, List.length_drop] at this
    have hll : s.data.toList.length = s.size := by simp
    omega
  obtain ⟨aq, haq⟩ : ∃ aq, a + q = aq := ⟨_, rfl⟩
  have HAQ := Lib.hid haq
  rw [haq] at hq
  have HTK := Lib.hid (fun w2 => spe.token5 k hk (s.extract a s.size) (by rw [ByteArray.size_extract]; omega) w2)
  have hok : ∀ w2 e w', spe.TokOut k (s.extract a s.size) w2 e w' → e = .returned (.tuple #[.string ⟨o.toArray⟩, .int .i64 q]) ∧ But [] w2 w' := fun w2 e w' h => by
    unfold spe.TokOut at h
    rw [drop_ext', htok] at h
    exact ⟨h.1, But.ofBelow h.2⟩
  have HOK := Lib.hid hok
  unfold TkOut
  rw [htok]
  dsimp only
  obtain ⟨b, hb⟩ : ∃ b, utf.V o = b := ⟨_, rfl⟩
  have HU : Hid (∀ w2, Calls Tryz.prog 88 #[.string ⟨o.toArray⟩] w2 fun e w' => e = .returned (.bool b) ∧ w2 = w') := Lib.hid fun w2 => by
    have := utf.utf25 ⟨o.toArray⟩ (by
      have h1 := dm.tok_len k (s.data.toList.drop a)
      rw [htok] at h1
      have h2 : (⟨o.toArray⟩ : ByteArray).size = o.length := by simp [ByteArray.size]
      rw [h2]
      simp only at h1
      omega) w2
    rw [← hb]
    exact this
  rw [hb]
  clear htok hok hb haq
  obtain ⟨W, hW⟩ : ∃ W, w.alloc (.cells #[.bool false, .int .i64 0, .int .i64 0, .bool false] 39) = W := ⟨_, rfl⟩
  have hb : But [] w W := hW ▸ (But.refl [] w).alloc _
  have hR : Rw W w.heap.size [.bool false, .int .i64 0, .int .i64 0, .bool false] 39 := hW ▸ Rw.new w _ _
  have hPl := Rw.lt h
  have hPR : P ≠ w.heap.size := by omega
  have hA := At.quiet (At.refl h) hb
  obtain ⟨c0, c1, c2, c3⟩ := hA.sd.cells
  have HA := Lib.hid (And.intro hA hR)
  have hai : (a : Int) ≤ (s.size : Int) := by omega
  clear hb hR h hA
  go_enter Tryz.func72, Tryz.ntmps72
  go_wp2_with fail
  refine (HTK.out _).mono ?_
  rintro e w2 h2
  obtain ⟨rfl, hb2⟩ := HOK.out _ _ _ h2
  have hA2 := HA.out.1.quiet hb2
  have hR2 := Rw.but HA.out.2 hb2 (by simp)
  obtain ⟨d0, d1, d2, d3⟩ := hA2.sd.cells
  have z1 := hA2.sd.fz 1
  have hw : IntKind.i64.wrap ((a : Int) + (q : Int)) = (aq : Int) := by have := HAQ.out; rw [IntKind.wrap_i64]; omega
  have hA3 := hA2.set aq
  have hR3 := Rw.but hR2 ((But.refl [P] w2).setCell (p := ⟨P, 1, none⟩) (Or.inl (by simp)) (.int .i64 (aq : Int))) (by simpa using fun e => hPR e.symm)
  obtain ⟨W3, hW3⟩ : ∃ W3, w2.setCell ⟨P, 1, none⟩ (.int .i64 (aq : Int)) = W3 := ⟨_, rfl⟩
  rw [hW3] at hA3 hR3
  have H3 := Lib.hid (And.intro hA3 hR3)
  clear h2 hb2 hA2 hR2 hA3 hR3 c0 c1 c2 c3 hW
  go_wp2_with fail
  refine (HU.out _).mono ?_
  rintro e w4 ⟨rfl, rfl⟩
  clear hW3 d0 d1 d2 d3 z1
  cases b with
  | true =>
    obtain ⟨W5, hW5, hA5, hR5, hb5⟩ := put4 H3.out.1 H3.out.2 (Nat.le_refl _) hPR (.bool false) (.int .i64 0) (.int .i64 0) (.bool false)
    obtain ⟨⟨y0, y1, y2, y3⟩, z0, z1, z2, z3⟩ := Rw.four H3.out.2
    obtain ⟨⟨x0, x1, x2, x3⟩, u0, u1, u2, u3⟩ := Rw.four hR5
    have HF := Lib.hid (hA5.quiet (But.drew (But.refl [] W5)))
    clear hA5 hR5 hb5
    go_wp2_with fail
    go_region
    go_wp2_with fail
    refine bodyPost_ret (v := .tuple #[.string ⟨o.toArray⟩, .agg #[.bool false, .int .i64 0, .int .i64 0, .bool false]]) (by simp [results, Tryz.results72, go_sem, x0, x1, x2, x3]) rfl ?_
    exact ⟨rfl, by rw [HAQ.out]; exact HF⟩
  | false =>
    have HFL := Lib.hid (fault73 P s hs aq p f W3 H3.out.1.sd a hf ha)
    go_wp2_with fail
    refine HFL.out.mono ?_
    rintro e w5 ⟨rfl, hA5⟩
    obtain ⟨l, hl⟩ : ∃ l, (dm.place s.data.toList f a).1 = l := ⟨_, rfl⟩
    obtain ⟨c, hc⟩ : ∃ c, (dm.place s.data.toList f a).2 = c := ⟨_, rfl⟩
    have hfv : fltV (dm.place s.data.toList f a) = .agg #[.bool true, .int .i64 l, .int .i64 c, .bool false] := by unfold fltV; rw [hl, hc]
    have hA6 := H3.out.1.trans hA5.out
    have hR6 := Rw.but H3.out.2 hA5.out.but (by simpa using fun e => hPR e.symm)
    obtain ⟨W6, hW6, hA7, hR7, hb7⟩ := put4 hA6 hR6 (Nat.le_refl _) hPR (.bool true) (.int .i64 l) (.int .i64 c) (.bool false)
    obtain ⟨⟨y0, y1, y2, y3⟩, z0, z1, z2, z3⟩ := Rw.four hR6
    obtain ⟨⟨x0, x1, x2, x3⟩, u0, u1, u2, u3⟩ := Rw.four hR7
    have HF := Lib.hid hA7
    have HFV := Lib.hid hfv
    clear hA5 hA6 hR6 hA7 hR7 hb7 hl hc
    rw [hfv]
    clear hfv
    go_wp2_with fail
    refine bodyPost_ret (v := .tuple #[.string ⟨#[]⟩, .agg #[.bool true, .int .i64 l, .int .i64 c, .bool false]]) (by simp [results, Tryz.results72, go_sem, x0, x1, x2, x3]) rfl ?_
    exact ⟨by rw [HFV.out], by rw [HAQ.out]; exact HF⟩
end Go.Proofs.YtlcbcgillekphaaGreatDoor.sd
