/-
  Proved: laws.FnTakeAgain returns true.
  Conditions: io.EOF and the two tables of utf8 read as their initialisers lay them.
-/
import Derived.Test.YtlcbcgillekphaaDoorDgc
import Derived.Test.YtlcbcgillekphaaDoorDgp
import Derived.Test.YtlcbcgillekphaaDoorDfd
namespace Go.Proofs.YtlcbcgillekphaaDoor.dec
open Go.RowKit Mem rw
set_option linter.unusedVariables false

theorem drop_ext (s : ByteArray) (n : Nat) : (s.extract n s.size).data.toList = s.data.toList.drop n := Lib.ext_list s n
theorem ext_size (s : ByteArray) (n : Nat) : (s.extract n s.size).size ≤ s.size := by
  rw [show (s.extract n s.size).size = (s.extract n s.size).data.toList.length by simp, drop_ext, List.length_drop]
  simp
set_option maxRecDepth 100000 in
set_option maxHeartbeats 2000000 in
theorem law4 (st wh : Int) (s : ByteArray) (hs : s.size ≤ 9223372036854775807) (w : World) (ev : Addr) (hc : Ctx w ev) :
    Calls Tryd.prog 4 #[.int .i64 st, .int .i64 wh, .string s] w fun e w' => e = .returned (.bool true) ∧ Below w.heap.size w w' := by
  by_cases g1 : 2147483647 < (s.size : Int)
  · go_enter Tryd.func4, Tryd.ntmps4
    go_wp2_with fail
    go_ret
    exact ⟨rfl, Below.refl _ _⟩
  by_cases g2 : st < 0
  · go_enter Tryd.func4, Tryd.ntmps4
    go_wp2_with fail
    go_ret
    exact ⟨rfl, Below.refl _ _⟩
  by_cases g3 : 13 < st
  · go_enter Tryd.func4, Tryd.ntmps4
    go_wp2_with fail
    go_ret
    exact ⟨rfl, Below.refl _ _⟩
  by_cases g4 : wh < 0
  · go_enter Tryd.func4, Tryd.ntmps4
    go_wp2_with fail
    go_ret
    exact ⟨rfl, Below.refl _ _⟩
  by_cases g5 : 3 < wh
  · go_enter Tryd.func4, Tryd.ntmps4
    go_wp2_with fail
    go_ret
    exact ⟨rfl, Below.refl _ _⟩
  by_cases g6 : 2000 < (s.size : Int)
  · go_enter Tryd.func4, Tryd.ntmps4
    go_wp2_with fail
    go_ret
    exact ⟨rfl, Below.refl _ _⟩
  obtain ⟨k, rfl⟩ : ∃ k : Nat, st = (k : Int) := ⟨st.toNat, by omega⟩
  obtain ⟨j, rfl⟩ : ∃ j : Nat, wh = (j : Int) := ⟨wh.toNat, by omega⟩
  have hk : k ≤ 13 := by omega
  have hj : j ≤ 4 := by omega
  have hs2 : s.size ≤ 2000 := by omega
  have hll : s.data.toList.length = s.size := by simp
  have HC : Hid (∀ w2, Below w.heap.size w w2 → Ctx w2 ev) := Lib.hid fun w2 hb => hc.below hb (Nat.le_refl _)
  -- what is taken of the set
  obtain ⟨n1, hn1⟩ : ∃ n1, dm.runN (dm.inS k) s.data.toList = n1 := ⟨_, rfl⟩
  have hn1l : n1 ≤ s.size := by rw [← hn1, ← hll]; exact dm.runN_le _ _
  obtain ⟨o1, ho1⟩ : ∃ o1, s.extract 0 n1 = o1 := ⟨_, rfl⟩
  have ho1z : o1.size = n1 := by
    rw [show o1.size = o1.data.toList.length by simp, ← ho1, take_ext s n1 hn1l, List.length_take]; omega
  have H1 : Hid (∀ w2, Below w.heap.size w w2 → Calls Tryd.prog 9 #[.int .i64 k, .string s, .slice none 0 0] w2 fun e w' => e = .returned (.tuple #[.string o1, .bool true]) ∧ Below w2.heap.size w2 w') := Lib.hid fun w2 hb => by
    have := take9 k hk s hs2 none [] 0 w2 ev (HC.out w2 hb) (SzAt.nil w2 none)
    rw [hn1, show (⟨(s.data.toList.take n1).toArray⟩ : ByteArray) = o1 from bytes_eq (by rw [← ho1, take_ext s n1 hn1l])] at this
    exact this
  obtain ⟨t1, ht1⟩ : ∃ t1, s.extract n1 s.size = t1 := ⟨_, rfl⟩
  have ht1z : t1.size ≤ 2000 := by have := ext_size s n1; rw [ht1] at this; omega
  have ht1l : t1.data.toList = s.data.toList.drop n1 := by rw [← ht1]; exact drop_ext s n1
  have H2 : Hid (∀ w2, Below w.heap.size w w2 → Calls Tryd.prog 9 #[.int .i64 k, .string t1, .slice none 0 0] w2 fun e w' => e = .returned (.tuple #[.string ⟨#[]⟩, .bool true]) ∧ Below w2.heap.size w2 w') := Lib.hid fun w2 hb => by
    have := take9 k hk t1 ht1z none [] 0 w2 ev (HC.out w2 hb) (SzAt.nil w2 none)
    rw [ht1l, ← hn1, dm.runN_again, List.take_zero] at this
    exact this
  -- what is gone by
  obtain ⟨n2, hn2⟩ : ∃ n2, dm.passed (s.size + 1) s.data.toList = n2 := ⟨_, rfl⟩
  obtain ⟨b2, hb2⟩ : ∃ b2, dm.breaks (s.data.toList.take n2) = b2 := ⟨_, rfl⟩
  have hn2l : n2 ≤ s.size := by
    have := dm.passed_le (s.size + 1) s.data.toList
    rw [hn2, hll] at this
    exact this
  have H3 : Hid (∀ w2, Below w.heap.size w w2 → Calls Tryd.prog 10 #[.string s, .slice none 0 0] w2 fun e w' => e = .returned (.tuple #[.int .i64 n2, .int .i64 b2, .bool true]) ∧ Below w2.heap.size w2 w') := Lib.hid fun w2 hb => by
    have := skip10 s hs2 none [] 0 w2 ev (HC.out w2 hb) (SzAt.nil w2 none)
    rw [hn2, hb2] at this
    exact this
  obtain ⟨t2, ht2⟩ : ∃ t2, s.extract n2 s.size = t2 := ⟨_, rfl⟩
  have ht2z : t2.size ≤ 2000 := by have := ext_size s n2; rw [ht2] at this; omega
  have ht2l : t2.data.toList = s.data.toList.drop n2 := by rw [← ht2]; exact drop_ext s n2
  have H4 : Hid (∀ w2, Below w.heap.size w w2 → Calls Tryd.prog 10 #[.string t2, .slice none 0 0] w2 fun e w' => e = .returned (.tuple #[.int .i64 0, .int .i64 0, .bool true]) ∧ Below w2.heap.size w2 w') := Lib.hid fun w2 hb => by
    have := skip10 t2 ht2z none [] 0 w2 ev (HC.out w2 hb) (SzAt.nil w2 none)
    rw [ht2l, ← hn2, dm.passed_again s.size s.data.toList (by omega), List.take_zero] at this
    exact this
  -- the token
  obtain ⟨q, hq⟩ : ∃ q, (dm.tok j s.data.toList).2 = q := ⟨_, rfl⟩
  have hql : q ≤ s.size := by rw [← hq, ← hll]; exact dm.tok_le _ _
  obtain ⟨o5, ho5⟩ : ∃ o5 : ByteArray, (⟨(teOut j false s.data.toList).toArray⟩ : ByteArray) = o5 := ⟨_, rfl⟩
  obtain ⟨l5, hl5⟩ : ∃ l5, teLn j s.data.toList = l5 := ⟨_, rfl⟩
  obtain ⟨fl, hfl⟩ : ∃ fl, utf.V (teOut j false s.data.toList) = fl := ⟨_, rfl⟩
  have H5 : Hid (∀ w2, Below w.heap.size w w2 → Calls Tryd.prog 6 #[.int .i64 j, .string s, .slice none 0 0, .bool false] w2 fun e w' => e = .returned (.tuple #[.string o5, .int .i64 q, .int .i64 l5, .bool (!fl), .bool true]) ∧ Below w2.heap.size w2 w') := Lib.hid fun w2 hb => by
    have := takeEsc6 j hj s hs2 none [] 0 false w2 ev (HC.out w2 hb) (SzAt.nil w2 none)
    rw [ho5, hq, hl5, hfl] at this
    exact this
  obtain ⟨t6, ht6⟩ : ∃ t6, s.extract q s.size = t6 := ⟨_, rfl⟩
  have ht6z : t6.size ≤ 2000 := by have := ext_size s q; rw [ht6] at this; omega
  have ht6l : t6.data.toList = s.data.toList.drop q := by rw [← ht6]; exact drop_ext s q
  have H6 : Hid (∀ w2, Below w.heap.size w w2 → Calls Tryd.prog 6 #[.int .i64 j, .string t6, .slice none 0 0, .bool false] w2 fun e w' => e = .returned (.tuple #[.string ⟨#[]⟩, .int .i64 0, .int .i64 0, .bool false, .bool true]) ∧ Below w2.heap.size w2 w') := Lib.hid fun w2 hb => by
    have htk : dm.tok j (s.data.toList.drop q) = ([], 0) := by
      rw [← hq]
      exact dm.tokL_again _ _ _ _ (Nat.le_refl _)
    have := takeEsc6 j hj t6 ht6z none [] 0 false w2 ev (HC.out w2 hb) (SzAt.nil w2 none)
    have e1 : teOut j false (s.data.toList.drop q) = [] := by unfold teOut; rw [htk]; rfl
    have e2 : teLn j (s.data.toList.drop q) = 0 := by rw [teLn_eq j hj, htk]; rfl
    rw [ht6l, e1, e2, htk] at this
    exact this
  clear hc hn1 hn2 hb2 hq ho5 hl5 hfl ht1l ht2l ht6l ht1z ht2z ht6z hll HC
  have i1 : (n1 : Int) ≤ (s.size : Int) := by omega
  have i2 : (n2 : Int) ≤ (s.size : Int) := by omega
  have i3 : (q : Int) ≤ (s.size : Int) := by omega
  clear hn1l hn2l hql hs2
  go_enter Tryd.func4, Tryd.ntmps4
  go_wp2_with fail
  refine (H1.out w (Below.refl _ _)).mono ?_
  rintro e w1 ⟨rfl, hb⟩
  have B1 : Hid (Below w.heap.size w w1) := Lib.hid hb
  clear hb
  go_wp2_with fail
  refine (H2.out w1 B1.out).mono ?_
  rintro e w2 ⟨rfl, hb⟩
  have B2 : Hid (Below w.heap.size w w2) := Lib.hid (B1.out.trans (hb.mono B1.out.size))
  clear hb
  go_wp2_with fail
  refine (H3.out w2 B2.out).mono ?_
  rintro e w3 ⟨rfl, hb⟩
  have B3 : Hid (Below w.heap.size w w3) := Lib.hid (B2.out.trans (hb.mono B2.out.size))
  clear hb
  go_wp2_with fail
  refine (H4.out w3 B3.out).mono ?_
  rintro e w4 ⟨rfl, hb⟩
  have B4 : Hid (Below w.heap.size w w4) := Lib.hid (B3.out.trans (hb.mono B3.out.size))
  clear hb
  go_wp2_with fail
  refine (H5.out w4 B4.out).mono ?_
  rintro e w5 ⟨rfl, hb⟩
  have B5 : Hid (Below w.heap.size w w5) := Lib.hid (B4.out.trans (hb.mono B4.out.size))
  clear hb
  cases fl with
  | false =>
    go_wp2_with fail
    go_ret
    exact ⟨rfl, B5.out⟩
  | true =>
    go_wp2_with fail
    refine (H6.out w5 B5.out).mono ?_
    rintro e w6 ⟨rfl, hb⟩
    have B6 : Hid (Below w.heap.size w w6) := Lib.hid (B5.out.trans (hb.mono B5.out.size))
    clear hb
    go_wp2_with fail
    go_ret
    exact ⟨rfl, B6.out⟩
end Go.Proofs.YtlcbcgillekphaaDoor.dec
