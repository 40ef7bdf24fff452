/-
  Proved: laws.FnTakeEsc returns true.
  Conditions: io.EOF and the two tables of utf8 read as their initialisers lay them; sizes in memory.
-/
import Derived.Test.YtlcbcgillekphaaDoorDfc
import Derived.Test.YtlcbcgillekphaaDoorSpt
import Derived.Test.YtlcbcgillekphaaDoorUtfS
namespace Go.Proofs.YtlcbcgillekphaaDoor.dec
open Go.RowKit Mem rw
set_option linter.unusedVariables false

/-- A token of a set that has no LF has none. -/
theorem tok_brk (p : UInt8 → Bool) (r : UInt8 → UInt8) (hp : p 10 = false) (hr : r 10 = 0) : ∀ (n : Nat) (l : List UInt8), l.length ≤ n → dm.breaks (l.take (dm.tokL p r l).2) = 0
  | 0, l, h => by
    obtain rfl : l = [] := List.eq_nil_of_length_eq_zero (by omega)
    rfl
  | n + 1, [], h => rfl
  | n + 1, [c], h => by
    unfold dm.tokL
    by_cases h1 : c = 92 ∨ p c = true
    · rw [if_pos h1]
      have : c ≠ 10 := by
        rintro rfl
        rcases h1 with h1 | h1
        · exact absurd h1 (by decide)
        · rw [hp] at h1; cases h1
      simp [dm.breaks, this]
    · rw [if_neg h1]; rfl
  | n + 1, c :: d :: t, h => by
    simp only [List.length_cons] at h
    have h1 := tok_brk p r hp hr n (d :: t) (by simp; omega)
    have h2 := tok_brk p r hp hr n t (by omega)
    unfold dm.tokL
    by_cases hc : c = 92
    · rw [if_pos hc]
      have hcn : c ≠ 10 := by rw [hc]; decide
      by_cases hd : r d = 0
      · rw [if_pos hd]
        simp only [List.take_succ_cons]
        unfold dm.breaks at *
        rw [List.countP_cons, h1]
        simp [hcn]
      · rw [if_neg hd]
        have hdn : d ≠ 10 := fun e => hd (by rw [e]; exact hr)
        simp only [List.take_succ_cons]
        unfold dm.breaks at *
        rw [List.countP_cons, List.countP_cons, h2]
        simp [hcn, hdn]
    · rw [if_neg hc]
      by_cases hpc : p c = true
      · rw [if_pos hpc]
        have hcn : c ≠ 10 := by rintro rfl; rw [hp] at hpc; cases hpc
        simp only [List.take_succ_cons]
        unfold dm.breaks at *
        rw [List.countP_cons, h1]
        simp [hcn]
      · rw [if_neg hpc]; rfl
theorem rv10 (k : Nat) (hk : k ≤ 4) : dm.rv k 10 = 0 := by
  obtain rfl | rfl | rfl | rfl | rfl : k = 0 ∨ k = 1 ∨ k = 2 ∨ k = 3 ∨ k = 4 := by omega
  all_goals decide
theorem teLn_eq (k : Nat) (hk : k ≤ 4) (l : List UInt8) : teLn k l = dm.breaks (l.take (dm.tok k l).2) := by
  unfold teLn
  cases h : dm.inS (dm.setOf k) 10 with
  | true => rw [if_pos rfl]
  | false =>
    rw [if_neg (by simp)]
    exact (tok_brk _ _ h (rv10 k hk) _ l (Nat.le_refl _)).symm
theorem take_ext (s : ByteArray) (n : Nat) (h : n ≤ s.size) : (s.extract 0 n).data.toList = s.data.toList.take n := by
  rw [ByteArray.data_extract, Array.toList_extract]
  simp
theorem bytes_eq {a b : ByteArray} (h : a.data.toList = b.data.toList) : a = b := by
  cases a
  cases b
  simp at h
  rw [h]
set_option maxRecDepth 100000 in
set_option maxHeartbeats 1000000 in
theorem law3 (k : Int) (s : ByteArray) (hs : s.size ≤ 9223372036854775807) (sa : Option Addr) (zs : List Int) (sc : Nat) (b : Bool) (w : World) (ev : Addr) (hc : Ctx w ev)
    (hz : ∀ (j : Nat) (z : Int), zs[j]? = some z → ∃ A off, sa = some ⟨A, off, none⟩ ∧ w.cell? ⟨A, off + j, none⟩ = some (.int .i64 z)) (hzb : ∀ z ∈ zs, z ≤ 9223372036854775807) (hzl : zs.length ≤ 9223372036854775807) :
    Calls Tryd.prog 3 #[.int .i64 k, .string s, .slice sa zs.length sc, .bool b] w fun e w' => e = .returned (.bool true) ∧ Below w.heap.size w w' := by
  obtain ⟨n, hn⟩ : ∃ n, zs.length = n := ⟨_, rfl⟩
  have HZ := Lib.hid (And.intro hz hzb)
  have HN := Lib.hid hn
  rw [hn] at hzl ⊢
  clear hz hzb hn
  by_cases g1 : 2147483647 < (s.size : Int)
  · go_enter Tryd.func3, Tryd.ntmps3
    go_wp2_with fail
    go_ret
    exact ⟨rfl, Below.refl _ _⟩
  by_cases g2 : 2147483647 < (n : Int)
  · go_enter Tryd.func3, Tryd.ntmps3
    go_wp2_with fail
    go_ret
    exact ⟨rfl, Below.refl _ _⟩
  by_cases g3 : k < 0
  · go_enter Tryd.func3, Tryd.ntmps3
    go_wp2_with fail
    go_ret
    exact ⟨rfl, Below.refl _ _⟩
  by_cases g4 : 4 < k
  · go_enter Tryd.func3, Tryd.ntmps3
    go_wp2_with fail
    go_ret
    exact ⟨rfl, Below.refl _ _⟩
  by_cases g5 : 2000 < (s.size : Int)
  · go_enter Tryd.func3, Tryd.ntmps3
    go_wp2_with fail
    go_ret
    exact ⟨rfl, Below.refl _ _⟩
  by_cases g6 : 100 < (n : Int)
  · go_enter Tryd.func3, Tryd.ntmps3
    go_wp2_with fail
    go_ret
    exact ⟨rfl, Below.refl _ _⟩
  obtain ⟨j, rfl⟩ : ∃ j : Nat, k = (j : Int) := ⟨k.toNat, by omega⟩
  have hj : j ≤ 4 := by omega
  have hs2 : s.size ≤ 2000 := by omega
  obtain ⟨q, hq⟩ : ∃ q, (dm.tok j s.data.toList).2 = q := ⟨_, rfl⟩
  have hqs : q ≤ s.size := by
    have := dm.tok_le j s.data.toList
    rw [hq] at this
    simpa using this
  obtain ⟨os, hos⟩ : ∃ os : ByteArray, (⟨(dm.tok j s.data.toList).1.toArray⟩ : ByteArray) = os := ⟨_, rfl⟩
  have HT := Lib.hid (spe.token5 j hj s (by omega) w)
  unfold spe.TokOut at HT
  rw [hq, hos] at HT
  obtain ⟨out, hout⟩ : ∃ out : ByteArray, (⟨(teOut j b s.data.toList).toArray⟩ : ByteArray) = out := ⟨_, rfl⟩
  have hout2 : (if b = true then s.extract 0 q else os) = out := by
    rw [← hout]
    unfold teOut
    cases b with
    | true =>
      rw [if_pos rfl, if_pos rfl, hq]
      apply bytes_eq
      rw [take_ext s q hqs]
    | false => rw [if_neg (by simp), if_neg (by simp), hos]
  have houts : out.data.toList = teOut j b s.data.toList := by rw [← hout]
  obtain ⟨fl, hfl⟩ : ∃ fl, utf.V (teOut j b s.data.toList) = fl := ⟨_, rfl⟩
  have hol : out.size ≤ 2147483647 := by
    have h1 : out.size = (teOut j b s.data.toList).length := by rw [← houts]; simp
    have h2 := dm.tok_len j s.data.toList
    have h3 : s.data.toList.length = s.size := by simp
    rw [h1]
    unfold teOut
    cases b with
    | true => rw [if_pos rfl, List.length_take]; omega
    | false => rw [if_neg (by simp)]; omega
  have HU : Hid (∀ w, Calls Tryd.prog 7 #[.string out] w fun e w' => e = .returned (.bool fl) ∧ w = w') := Lib.hid fun w => by
    have := utf.utf25 out hol w
    rw [houts, hfl] at this
    exact this
  obtain ⟨bk, hbk⟩ : ∃ bk, dm.breaks (s.data.toList.take q) = bk := ⟨_, rfl⟩
  have HB : Hid (∀ w, Calls Tryd.prog 8 #[.string (s.extract 0 q)] w fun e w' => e = .returned (.int .i64 (bk : Nat)) ∧ w = w') := Lib.hid fun w => by
    have := spe.breaks8 (s.extract 0 q) (by rw [show (s.extract 0 q).size = (s.extract 0 q).data.toList.length by simp, take_ext s q hqs, List.length_take]; omega) w
    rw [take_ext s q hqs, hbk] at this
    exact this
  have HE : Hid (∀ w2, Below w.heap.size w w2 → Calls Tryd.prog 6 #[.int .i64 j, .string s, .slice sa n sc, .bool b] w2 fun e w' => e = .returned (.tuple #[.string out, .int .i64 (q : Int), .int .i64 (bk : Int), .bool (!fl), .bool true]) ∧ Below w2.heap.size w2 w') := Lib.hid fun w2 hb2 => by
    have hz2 : SzAt w2 sa zs := ⟨fun i z h => by
      obtain ⟨A, off, h1, h2⟩ := HZ.out.1 i z h
      exact ⟨A, off, h1, (hb2.cell (block_lt_of_cell h2)).trans h2⟩, by rw [HN.out]; omega, HZ.out.2⟩
    have := takeEsc6 j hj s hs2 sa zs sc b w2 ev (hc.below hb2 (Nat.le_refl _)) hz2
    rw [HN.out, hout, hq, hfl, teLn_eq j hj, hq, hbk] at this
    exact this
  clear hq hos hout houts hfl hol hbk hc HZ HN
  have hq0 : (0 : Int) ≤ (q : Int) := by omega
  have hq1 : (q : Int) ≤ (s.size : Int) := by omega
  cases b with
  | true =>
    obtain rfl : s.extract 0 q = out := hout2
    go_enter Tryd.func3, Tryd.ntmps3
    go_wp2_with fail
    refine HT.out.mono ?_
    rintro e w2 ⟨rfl, hb2⟩
    have HB2 := Lib.hid hb2
    clear hb2
    go_wp2_with fail
    refine (HE.out w2 HB2.out).mono ?_
    rintro e w3 ⟨rfl, hb3⟩
    have HB3 := Lib.hid hb3
    clear hb3
    cases fl with
    | true =>
      go_wp2_with (first | (go_at_call 7; refine (HU.out _).mono ?_; rintro e w4 ⟨rfl, rfl⟩) | (go_at_call 8; refine (HB.out _).mono ?_; rintro e w4 ⟨rfl, rfl⟩))
      go_ret
      exact ⟨rfl, HB2.out.trans (HB3.out.mono HB2.out.size)⟩
    | false =>
      go_wp2_with (first | (go_at_call 7; refine (HU.out _).mono ?_; rintro e w4 ⟨rfl, rfl⟩) | (go_at_call 8; refine (HB.out _).mono ?_; rintro e w4 ⟨rfl, rfl⟩))
      go_ret
      exact ⟨rfl, HB2.out.trans (HB3.out.mono HB2.out.size)⟩
  | false =>
    obtain rfl : os = out := hout2
    go_enter Tryd.func3, Tryd.ntmps3
    go_wp2_with fail
    refine HT.out.mono ?_
    rintro e w2 ⟨rfl, hb2⟩
    have HB2 := Lib.hid hb2
    clear hb2
    go_wp2_with fail
    refine (HE.out w2 HB2.out).mono ?_
    rintro e w3 ⟨rfl, hb3⟩
    have HB3 := Lib.hid hb3
    clear hb3
    cases fl with
    | true =>
      go_wp2_with (first | (go_at_call 7; refine (HU.out _).mono ?_; rintro e w4 ⟨rfl, rfl⟩) | (go_at_call 8; refine (HB.out _).mono ?_; rintro e w4 ⟨rfl, rfl⟩))
      go_ret
      exact ⟨rfl, HB2.out.trans (HB3.out.mono HB2.out.size)⟩
    | false =>
      go_wp2_with (first | (go_at_call 7; refine (HU.out _).mono ?_; rintro e w4 ⟨rfl, rfl⟩) | (go_at_call 8; refine (HB.out _).mono ?_; rintro e w4 ⟨rfl, rfl⟩))
      go_ret
      exact ⟨rfl, HB2.out.trans (HB3.out.mono HB2.out.size)⟩
end Go.Proofs.YtlcbcgillekphaaDoor.dec
