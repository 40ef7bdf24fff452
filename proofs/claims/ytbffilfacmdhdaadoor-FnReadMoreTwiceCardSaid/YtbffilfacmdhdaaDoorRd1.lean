/-
  Proved: the contract of the reader's Read: what it lays into a row's spare room, what is left then.
  Conditions: a reader's cells, a row with spare room.
-/
import Derived.Test.YtbffilfacmdhdaaDoorRd0
namespace Go.Proofs.YtbffilfacmdhdaaDoor.dec
open Go.RowKit Mem rw
set_option linter.unusedVariables false

theorem str_size (l : List UInt8) : (⟨l.toArray⟩ : ByteArray).size = l.length := by simp [ByteArray.size]
/-- copy of a string into a row of whatever length. -/
theorem copy_str2 (w : World) (dT sT ty elem : TypeId) (b o q dCap m : Nat) (t : ByteArray) (hm : min t.size q = m)
    (hu : Tryd.prog.underlying dT = some (.slice elem)) (hz : ∀ w, (Go.sizeOf elem).run Tryd.prog w = .ok 1 w)
    (hc : ∀ j, j < q → (w.cell? ⟨b, o + j, none⟩).isSome = true) (hf : ∀ j, j < q → w.frozen? ⟨b, o + j, none⟩ = false) :
    (Builtin.copy_ #[dT, sT] ty #[.slice (some ⟨b, o, none⟩) q dCap, .string t]).run Tryd.prog w = .ok (goInt m) (w.setCells b o ((t.data.toList.take m).map fun x => Value.int .u8 (x.toNat : Int))) := by
  have hmin : Nat.min t.size q = m := hm
  have hl : ((t.data.toList.take m).map fun x => Value.int .u8 (x.toNat : Int)).length = m := by
    rw [List.length_map, List.length_take, ← Lib.size_eq]; omega
  have hst := run_storeCells_cells (P := Tryd.prog) b o ((t.data.toList.take m).map fun x => Value.int .u8 (x.toNat : Int)) 0 w (by rw [hl]; intro j hj; simpa using hc j (by omega)) (by rw [hl]; intro j hj; simpa using hf j (by omega)) (by
    intro v hv
    obtain ⟨x, _, rfl⟩ := List.mem_map.1 hv
    rfl)
  simp [Builtin.copy_, run_underlying hu, Builtin.lenOf, Builtin.firstCells, hz, hmin]
  rw [← List.map_take, hst]
  rfl

/-- What a reader's Read leaves: m bytes more in the row, m fewer in the reader. -/
structure Red (G : Cfg) (w w' : World) (B cap : Nat) (l left : List UInt8) (at_ m at' : Nat) : Prop where
  m1 : m ≤ left.length
  m2 : m ≤ cap - l.length
  buf : BufAt w' B (l ++ left.take m) cap
  row : Rw w' G.R [.string ⟨(left.drop m).toArray⟩, .slice G.sa G.zs.length G.sc, .int .i64 at', .bool false] 61
  but : But [G.R, B] w w'
  all : G.zs = [] → at' = at_ ∧ m = min left.length (cap - l.length)
  some : ∀ z, G.zs[at_ % G.zs.length]? = some z → at' = at_ + 1 ∧ m = min (min z.toNat (cap - l.length)) left.length

theorem read_end (G : Cfg) (B off n c : Nat) (at_ : Nat) (w : World) (hr : Rw w G.R [.string ⟨([] : List UInt8).toArray⟩, .slice G.sa G.zs.length G.sc, .int .i64 at_, .bool false] 61) (ev : Value) (he : w.cell? ⟨0, 0, none⟩ = some ev) :
    Calls Tryd.prog 48 #[.pointer (some ⟨G.R, 0, none⟩), .slice (some ⟨B, off, none⟩) n c] w fun e w' => e = .returned (.tuple #[.int .i64 0, ev]) ∧ ∃ q, w.drewN q = w' := by
  have c0 := Rw.cell hr 0
  have c3 := Rw.cell hr 3
  simp only [List.getElem?_cons_zero, List.getElem?_cons_succ] at c0 c3
  clear hr
  go_enter Tryd.func48, Tryd.ntmps48
  go_wp2
  go_quiet (fail)
  go_wp2
  go_ret2
  exact ⟨rfl, _, rfl⟩
theorem byteCells_take (t : ByteArray) (m : Nat) : ((t.data.toList.take m).map fun x => Value.int .u8 (x.toNat : Int)) = Lib.byteCells (t.data.toList.take m) := rfl

/-- The walk's last part, alike in both: the copy, what is left, the count. -/
theorem red_mk (G : Cfg) (B cap : Nat) (l left : List UInt8) (at_ at' m : Nat) (w w1 : World) (hR : G.R ≠ B) (hb : But [G.R] w w1) (hm1 : m ≤ left.length) (hm2 : m ≤ cap - l.length)
    (hr : Rw w1 G.R [.string ⟨left.toArray⟩, .slice G.sa G.zs.length G.sc, .int .i64 at', .bool false] 61) (hB : BufAt w B l cap)
    (all : G.zs = [] → at' = at_ ∧ m = min left.length (cap - l.length)) (some : ∀ z, G.zs[at_ % G.zs.length]? = some z → at' = at_ + 1 ∧ m = min (min z.toNat (cap - l.length)) left.length) :
    Red G w ((w1.setCells B l.length (Lib.byteCells (left.take m))).setCell ⟨G.R, 0, none⟩ (.string ⟨(left.drop m).toArray⟩)) B cap l left at_ m at' := by
  have hle := hB.le
  have hB1 := hB.but hb (by simpa using fun e => hR e.symm)
  have hp := hB1.put (left.take m) (by rw [List.length_take]; omega)
  have hb2 : But [G.R] (w1.setCells B l.length (Lib.byteCells (left.take m))) ((w1.setCells B l.length (Lib.byteCells (left.take m))).setCell ⟨G.R, 0, none⟩ (.string ⟨(left.drop m).toArray⟩)) := (But.refl _ _).setCell (Or.inl (by simp)) _
  refine ⟨hm1, hm2, hp.1.but hb2 (by simpa using fun e => hR e.symm), ?_, ?_, all, some⟩
  · exact Rw.set (Rw.but hr hp.2 (by simpa using hR)) 0 (.string ⟨(left.drop m).toArray⟩)
  · exact ((hb.mono (by simp)).trans (hp.2.mono (by simp))).trans (hb2.mono (by simp))


set_option maxRecDepth 100000 in
set_option maxHeartbeats 400000 in
theorem read_all (G : Cfg) (B cap : Nat) (l left : List UInt8) (at_ : Nat) (w : World) (hz : G.zs = []) (hl : left ≠ []) (hlen : left.length ≤ 100000) (hcap : cap ≤ 1000000) (hR : G.R ≠ B)
    (hr : Rw w G.R [.string ⟨left.toArray⟩, .slice G.sa G.zs.length G.sc, .int .i64 at_, .bool false] 61) (hB : BufAt w B l cap) :
    Calls Tryd.prog 48 #[.pointer (some ⟨G.R, 0, none⟩), .slice (some ⟨B, l.length, none⟩) (cap - l.length) (cap - l.length)] w fun e w' => ∃ m at' : Nat, e = .returned (.tuple #[.int .i64 m, .nilIface]) ∧ Hid (Red G w w' B cap l left at_ m at') := by
  have hle := hB.le
  have hzl : G.zs.length = 0 := by rw [hz]; rfl
  obtain ⟨N, hN⟩ : ∃ N, cap - l.length = N := ⟨_, rfl⟩
  obtain ⟨m, hm⟩ : ∃ m, min left.length N = m := ⟨_, rfl⟩
  have hm1 : m ≤ left.length := by omega
  have hm2 : m ≤ N := by omega
  have HM := fun w1 hb hr' => red_mk G B cap l left at_ at_ m w w1 hR hb hm1 (by omega) hr' hB (fun _ => ⟨rfl, by rw [hN, hm]⟩) (fun z h => by rw [hz] at h; simp at h)
  obtain ⟨t, ht⟩ : ∃ t : ByteArray, (⟨left.toArray⟩ : ByteArray) = t := ⟨_, rfl⟩
  have hts : t.size = left.length := by rw [← ht]; exact str_size left
  have htd : t.data.toList = left := by rw [← ht]
  have hpos : 0 < left.length := List.length_pos_iff.2 hl
  have hte : t.extract m t.size = ⟨(left.drop m).toArray⟩ := by
    rw [← ht]
    apply ByteArray.ext
    apply Array.ext'
    simp [ByteArray.data_extract, ByteArray.size]
    rw [List.take_of_length_le (by simp)]
  rw [← hte] at HM
  rw [ht] at HM hr
  have hb1 : But [G.R] w w.drew := (But.refl _ _).drew
  have hcp := copy_str2 w.drew 35 9 3 5 B l.length m N m t (by rw [hts]; omega) Tryd.underlying35 (fun _ => by kernel_rfl) (fun j hj => hB.room (l.length + j) (by omega)) (fun j hj => hB.free (l.length + j) (by omega))
  rw [htd] at hcp
  have hmm := HM w.drew hb1 hr
  have hbc : But [B] w.drew (w.drew.setCells B l.length (Lib.byteCells (left.take m))) := (But.refl _ _).setCells (Or.inl (by simp)) _ _
  obtain ⟨W2, hW2⟩ : ∃ W2, w.drew.setCells B l.length (Lib.byteCells (left.take m)) = W2 := ⟨_, rfl⟩
  have hcp2 : _ = Result.ok _ (w.drew.setCells B l.length (Lib.byteCells (left.take m))) := hcp
  rw [hW2] at hcp2 hmm hbc
  have r2 : Rw W2 G.R _ _ := Rw.but (show Rw w.drew G.R _ _ from hr) hbc (by simpa using hR)
  have d0 := Rw.cell r2 0
  have y0 := Rw.fz r2 0
  have c0 := Rw.cell hr 0
  have c1 := Rw.cell hr 1
  have c3 := Rw.cell hr 3
  simp only [List.getElem?_cons_zero, List.getElem?_cons_succ] at c0 c1 c3 d0
  have hmin : min (left.length : Int) (N : Int) = (m : Int) := by omega
  have h0 : ((t.size : Int) == 0) = false := beq_eq_false_iff_ne.2 (by omega)
  have hml : (m : Int) ≤ (t.size : Int) := by omega
  have hm0 : (0 : Int) ≤ (m : Int) := by omega
  have hmN : (m : Int) ≤ (N : Int) := by omega
  rw [← hts] at hmin
  have HMM := Lib.hid hmm
  have HCP := Lib.hid hcp2
  rw [hN]
  rw [hzl] at c1
  clear HM hb1 hcp hcp2 hbc hmm r2 hr hB htd hts ht hte hW2 hm hN hzl hz hm1 hm2
  go_enter Tryd.func48, Tryd.ntmps48
  go_wp2
  refine region_tail 10 (by kernel_rfl) ?_
  simp only [List.take_succ_cons, List.take_zero, List.drop_succ_cons, List.drop_zero]
  repeat still_step
  refine wpStill_nil ?_
  have hcp := HCP.out
  go_wp2
  go_ret2
  exact ⟨m, at_, rfl, HMM⟩

set_option maxRecDepth 100000 in
set_option maxHeartbeats 1000000 in
theorem read_some (G : Cfg) (B cap : Nat) (l left : List UInt8) (at_ : Nat) (w : World) (z : Int) (A off : Nat) (hz : G.zs[at_ % G.zs.length]? = some z) (hz2 : z ≤ 9223372036854775807) (hsa : G.sa = some ⟨A, off, none⟩) (hzc : w.cell? ⟨A, off + at_ % G.zs.length, none⟩ = some (.int .i64 z))
    (hat : at_ ≤ 1000000) (hAR : A ≠ G.R) (hn : G.zs.length ≤ 100) (hl : left ≠ []) (hlen : left.length ≤ 100000) (hcap : cap ≤ 1000000) (hR : G.R ≠ B)
    (hr : Rw w G.R [.string ⟨left.toArray⟩, .slice G.sa G.zs.length G.sc, .int .i64 at_, .bool false] 61) (hB : BufAt w B l cap) :
    Calls Tryd.prog 48 #[.pointer (some ⟨G.R, 0, none⟩), .slice (some ⟨B, l.length, none⟩) (cap - l.length) (cap - l.length)] w fun e w' => ∃ m at' : Nat, e = .returned (.tuple #[.int .i64 m, .nilIface]) ∧ Hid (Red G w w' B cap l left at_ m at') := by
  have hle := hB.le
  have hk := (List.getElem?_eq_some_iff.1 hz).1
  obtain ⟨N, hN⟩ : ∃ N, cap - l.length = N := ⟨_, rfl⟩
  obtain ⟨q, hq⟩ : ∃ q, z.toNat = q := ⟨_, rfl⟩
  obtain ⟨p, hp⟩ : ∃ p, min q N = p := ⟨_, rfl⟩
  obtain ⟨m, hm⟩ : ∃ m, min p left.length = m := ⟨_, rfl⟩
  have hm1 : m ≤ left.length := by omega
  have hm2 : m ≤ N := by omega
  have HM := fun w1 hb hr' => red_mk G B cap l left at_ (at_ + 1) m w w1 hR hb hm1 (by omega) hr' hB (fun h => by rw [h] at hz; simp at hz) (fun z' h => by rw [hz] at h; cases h; exact ⟨rfl, by rw [hN, hq, hp, hm]⟩)
  obtain ⟨t, ht⟩ : ∃ t : ByteArray, (⟨left.toArray⟩ : ByteArray) = t := ⟨_, rfl⟩
  have hts : t.size = left.length := by rw [← ht]; exact str_size left
  have htd : t.data.toList = left := by rw [← ht]
  have hpos : 0 < left.length := List.length_pos_iff.2 hl
  have hte : t.extract m t.size = ⟨(left.drop m).toArray⟩ := by
    rw [← ht]
    apply ByteArray.ext
    apply Array.ext'
    simp [ByteArray.data_extract, ByteArray.size]
    rw [List.take_of_length_le (by simp)]
  rw [← hte] at HM
  rw [ht] at HM hr
  rw [hsa] at HM hr
  obtain ⟨n, hnn⟩ : ∃ n, G.zs.length = n := ⟨_, rfl⟩
  rw [hnn] at HM hr hk hzc hn
  obtain ⟨k, hkk⟩ : ∃ k, at_ % n = k := ⟨_, rfl⟩
  rw [hkk] at hzc hk
  have hki : (at_ : Int) % (n : Int) = (k : Int) := by omega
  have hk0 : (0 : Int) ≤ (k : Int) := by omega
  have hkn : (k : Int) < (n : Int) := by omega
  have hn0 : ((n : Int) == 0) = false := beq_eq_false_iff_ne.2 (by omega)
  have hnp : (0 : Int) < (n : Int) := by omega
  have hmx : max (0 : Int) z = (q : Int) := by omega
  have HW : Hid (∀ j, But [G.R] w ((w.drewN j).setCell ⟨G.R, 2, none⟩ (.int .i64 ((at_ : Int) + 1)))) := Lib.hid fun j => ((But.refl _ w).drewN).setCell (Or.inl (by simp)) _
  have HR0 := Lib.hid hr
  have HB0 := Lib.hid hB
  have HMH := Lib.hid HM
  have c0 := Rw.cell hr 0
  have c1 := Rw.cell hr 1
  have c2 := Rw.cell hr 2
  have c3 := Rw.cell hr 3
  have z2 := Rw.fz hr 2
  simp only [List.getElem?_cons_zero, List.getElem?_cons_succ] at c0 c1 c2 c3
  have h0 : ((t.size : Int) == 0) = false := beq_eq_false_iff_ne.2 (by omega)
  have hats : (at_ : Int) ≤ 1000000 := by omega
  have hmin : min (q : Int) (N : Int) = (p : Int) := by omega
  have hpN : (p : Int) ≤ (N : Int) := by omega
  have hp0 : (0 : Int) ≤ (p : Int) := by omega
  have hml : (m : Int) ≤ (t.size : Int) := by omega
  have hm0 : (0 : Int) ≤ (m : Int) := by omega
  have HF := Lib.hid (show min t.size p = m ∧ l.length + p ≤ cap ∧ t.data.toList = left from ⟨by omega, by omega, htd⟩)
  rw [hN]
  clear HM hr hB htd hts ht hte hm hp hq hN hkk hnn hz hsa hm1 hm2 hk
  go_enter Tryd.func48, Tryd.ntmps48
  go_wp2
  go_quiet (fail)
  go_wp2
  have hw1 := HW.out nq
  have r1 : Rw ((w.drewN nq).setCell ⟨G.R, 2, none⟩ (.int .i64 ((at_ : Int) + 1))) G.R [.string t, .slice (some ⟨A, off, none⟩) n G.sc, .int .i64 ((at_ : Int) + 1), .bool false] 61 := Rw.set (show Rw (w.drewN nq) G.R _ _ from HR0.out) 2 _
  obtain ⟨W1, hW1⟩ : ∃ W1, (w.drewN nq).setCell ⟨G.R, 2, none⟩ (.int .i64 ((at_ : Int) + 1)) = W1 := ⟨_, rfl⟩
  rw [hW1] at hw1 r1 ⊢
  clear hW1 HW
  obtain ⟨F1, F2, F3⟩ := HF.out
  have hB1 := HB0.out.but hw1 (by simpa using fun e => hR e.symm)
  have hcp := copy_str2 W1.drew 35 9 3 5 B l.length p N m t F1 Tryd.underlying35 (fun _ => by kernel_rfl) (fun j hj => hB1.room (l.length + j) (by omega)) (fun j hj => hB1.free (l.length + j) (by omega))
  rw [F3] at hcp
  have hmm := HMH.out W1.drew hw1.drew (by simpa using (show Rw W1.drew G.R _ _ from r1))
  have hbc : But [B] W1.drew (W1.drew.setCells B l.length (Lib.byteCells (left.take m))) := (But.refl _ _).setCells (Or.inl (by simp)) _ _
  obtain ⟨W2, hW2⟩ : ∃ W2, W1.drew.setCells B l.length (Lib.byteCells (left.take m)) = W2 := ⟨_, rfl⟩
  have hcp2 : _ = Result.ok _ (W1.drew.setCells B l.length (Lib.byteCells (left.take m))) := hcp
  rw [hW2] at hcp2 hmm hbc
  have r2 : Rw W2 G.R _ _ := Rw.but (show Rw W1.drew G.R _ _ from r1) hbc (by simpa using hR)
  have d0 := Rw.cell r2 0
  have y0 := Rw.fz r2 0
  have e0 := Rw.cell r1 0
  simp only [List.getElem?_cons_zero] at d0 e0
  have HMM := Lib.hid hmm
  have HCP := Lib.hid hcp2
  clear hw1 r1 F1 F2 F3 hB1 hcp hmm hbc hW2 hcp2 r2 HF HMH HB0 HR0 c0 c1 c2 c3 z2 hzc hmx hki
  refine region_tail 10 (by kernel_rfl) ?_
  simp only [List.take_succ_cons, List.take_zero, List.drop_succ_cons, List.drop_zero]
  repeat still_step
  refine wpStill_nil ?_
  have hcp := HCP.out
  go_wp2
  go_ret2
  exact ⟨m, at_ + 1, rfl, HMM⟩
end Go.Proofs.YtbffilfacmdhdaaDoor.dec
