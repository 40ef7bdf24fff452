/-
  Proved: the law FnReadMoreTwice, as a contract.
  Conditions: the statement's own.
-/
import Derived.Test.YtbffilfacmdhdaaDoorRf5
namespace Go.Proofs.YtbffilfacmdhdaaDoor.dec
open Go.RowKit Mem rw
set_option linter.unusedVariables false
set_option linter.unusedSimpArgs false

theorem drop_ext (s : ByteArray) (n : Nat) : (s.extract n s.size).data.toList = s.data.toList.drop n := by
  rw [ByteArray.data_extract, Array.toList_extract]
  simp
  exact List.take_of_length_le (by simp)
theorem ext_sz (s : ByteArray) (n : Nat) : (s.extract n s.size).size = s.size - n := by
  rw [show (s.extract n s.size).size = (s.extract n s.size).data.toList.length by simp, drop_ext, List.length_drop]
  simp
theorem asked4 (s : ByteArray) (sa : Option Addr) (n sc : Nat) (w : World) (b : Bool) (hb : b = (decide ((s.size : Int) ≤ 2000) && decide ((n : Int) ≤ 50))) :
    Calls Tryd.prog 4 #[.string s, .slice sa n sc] w fun e w' => e = .returned (.bool b) ∧ w = w' := by
  subst hb
  by_cases h1 : (s.size : Int) ≤ 2000
  · by_cases h2 : (n : Int) ≤ 50
    · rw [decide_eq_true h1, decide_eq_true h2]
      go_enter Tryd.func4, Tryd.ntmps4
      go_wp2_with fail
      go_ret
      exact ⟨rfl, rfl⟩
    · rw [decide_eq_true h1, decide_eq_false h2]
      go_enter Tryd.func4, Tryd.ntmps4
      go_wp2_with fail
      go_ret
      exact ⟨rfl, rfl⟩
  · rw [decide_eq_false h1, Bool.false_and]
    go_enter Tryd.func4, Tryd.ntmps4
    go_wp2_with fail
    go_ret
    exact ⟨rfl, rfl⟩
set_option maxRecDepth 100000 in
set_option maxHeartbeats 2000000 in
theorem law3 (s d : ByteArray) (hs : s.size ≤ 9223372036854775807) (hd : d.size ≤ 9223372036854775807) (x y : Int) (hx : x ≤ 9223372036854775807) (hy : y ≤ 9223372036854775807) (sa : Option Addr) (zs : List Int) (sc : Nat) (w : World)
    (hz : ∀ (j : Nat) (z : Int), zs[j]? = some z → ∃ A off, sa = some ⟨A, off, none⟩ ∧ w.cell? ⟨A, off + j, none⟩ = some (.int .i64 z)) (hzb : ∀ z ∈ zs, z ≤ 9223372036854775807) (hzl : zs.length ≤ 9223372036854775807) :
    Calls Tryd.prog 3 #[.string s, .string d, .int .i64 x, .int .i64 y, .slice sa zs.length sc] w fun e w' => e = .returned (.bool true) ∧ Below w.heap.size w w' := by
  obtain ⟨n, hn⟩ : ∃ n, zs.length = n := ⟨_, rfl⟩
  have HZ := Lib.hid (And.intro hz hzb)
  have HN := Lib.hid hn
  rw [hn] at hzl ⊢
  clear hz hzb hn
  by_cases g1 : 2147483647 < (s.size : Int)
  · go_enter Tryd.func3, Tryd.ntmps3
    go_wp2_with fail
    go_ret
    exact ⟨rfl, Below.refl _ _⟩
  by_cases g2 : 2147483647 < (d.size : Int)
  · go_enter Tryd.func3, Tryd.ntmps3
    go_wp2_with fail
    go_ret
    exact ⟨rfl, Below.refl _ _⟩
  by_cases g3 : 2147483647 < (n : Int)
  · go_enter Tryd.func3, Tryd.ntmps3
    go_wp2_with fail
    go_ret
    exact ⟨rfl, Below.refl _ _⟩
  by_cases g4 : (s.size : Int) ≤ 2000 ∧ (n : Int) ≤ 50
  case neg =>
    have HA := Lib.hid (asked4 s sa n sc w false (by
      by_cases h1 : (s.size : Int) ≤ 2000
      · rw [decide_eq_true h1, decide_eq_false (fun h2 => g4 ⟨h1, h2⟩)]; rfl
      · rw [decide_eq_false h1]; rfl))
    clear g4
    go_enter Tryd.func3, Tryd.ntmps3
    go_wp2_with fail
    refine HA.out.mono ?_
    rintro e w1 ⟨rfl, rfl⟩
    go_wp2_with fail
    go_ret
    exact ⟨rfl, Below.refl _ _⟩
  obtain ⟨h1, h2⟩ := g4
  have HA := Lib.hid (asked4 s sa n sc w true (by rw [decide_eq_true h1, decide_eq_true h2]; rfl))
  by_cases g5 : 500 < (d.size : Int)
  · go_enter Tryd.func3, Tryd.ntmps3
    go_wp2_with fail
    refine HA.out.mono ?_
    rintro e w1 ⟨rfl, rfl⟩
    go_wp2_with fail
    go_ret
    exact ⟨rfl, Below.refl _ _⟩
  by_cases g6 : x < 0
  · go_enter Tryd.func3, Tryd.ntmps3
    go_wp2_with fail
    refine HA.out.mono ?_
    rintro e w1 ⟨rfl, rfl⟩
    go_wp2_with fail
    go_ret
    exact ⟨rfl, Below.refl _ _⟩
  by_cases g7 : y < 0
  · go_enter Tryd.func3, Tryd.ntmps3
    go_wp2_with fail
    refine HA.out.mono ?_
    rintro e w1 ⟨rfl, rfl⟩
    go_wp2_with fail
    go_ret
    exact ⟨rfl, Below.refl _ _⟩
  by_cases g8 : (s.size : Int) < x
  · go_enter Tryd.func3, Tryd.ntmps3
    go_wp2_with fail
    refine HA.out.mono ?_
    rintro e w1 ⟨rfl, rfl⟩
    go_wp2_with fail
    go_ret
    exact ⟨rfl, Below.refl _ _⟩
  have hw1 : IntKind.i64.wrap ((s.size : Int) - x) = (s.size : Int) - x := by rw [IntKind.wrap_i64]; omega
  by_cases g9 : (s.size : Int) - x < y
  · go_enter Tryd.func3, Tryd.ntmps3
    go_wp2_with fail
    refine HA.out.mono ?_
    rintro e w1 ⟨rfl, rfl⟩
    go_wp2_with fail
    go_ret
    exact ⟨rfl, Below.refl _ _⟩
  obtain ⟨a, rfl⟩ : ∃ a : Nat, x = (a : Int) := ⟨x.toNat, by omega⟩
  obtain ⟨m, rfl⟩ : ∃ m : Nat, y = (m : Int) := ⟨y.toNat, by omega⟩
  have hs2 : s.size ≤ 2000 := by omega
  have hll : s.data.toList.length = s.size := by simp
  have hdl : d.data.toList.length = d.size := by simp
  have ham : a + m ≤ s.size := by omega
  have hw2 : IntKind.i64.wrap ((a : Int) + (m : Int)) = ((a + m : Nat) : Int) := by rw [IntKind.wrap_i64]; omega
  have HS : Hid (∀ w2, Below w.heap.size w w2 → SzAt w2 sa zs) := Lib.hid fun w2 hb => (SzAt.mk HZ.out.1 (by rw [HN.out]; omega) HZ.out.2).below hb
  obtain ⟨o1, ho1⟩ : ∃ o1 : ByteArray, (⟨(d.data.toList ++ s.data.toList.take a).toArray⟩ : ByteArray) = o1 := ⟨_, rfl⟩
  obtain ⟨o2, ho2⟩ : ∃ o2 : ByteArray, (⟨(d.data.toList ++ s.data.toList.take (a + m)).toArray⟩ : ByteArray) = o2 := ⟨_, rfl⟩
  obtain ⟨t1, ht1⟩ : ∃ t1, s.extract a s.size = t1 := ⟨_, rfl⟩
  have ht1z : t1.size = s.size - a := by rw [← ht1]; exact ext_sz s a
  have ht1l : t1.data.toList = s.data.toList.drop a := by rw [← ht1]; exact drop_ext s a
  have ho1l : o1.data.toList = d.data.toList ++ s.data.toList.take a := by rw [← ho1]
  have ho1z : o1.size ≤ 10000 := by
    have : o1.size = o1.data.toList.length := by simp
    rw [this, ho1l, List.length_append, List.length_take]
    omega
  obtain ⟨q1, hq1⟩ : ∃ q1, s.size - a = q1 := ⟨_, rfl⟩
  obtain ⟨q2, hq2⟩ : ∃ q2, s.size - (a + m) = q2 := ⟨_, rfl⟩
  have H1 : Hid (∀ w2, Below w.heap.size w w2 → Calls Tryd.prog 5 #[.string s, .string d, .int .i64 a, .slice sa n sc] w2 fun e w' => e = .returned (.tuple #[.string o1, .int .i64 q1, .int .i64 0]) ∧ Below w2.heap.size w2 w') := Lib.hid fun w2 hb => by
    have := more5 s d hs2 (by omega) a (by omega) sa zs sc w2 (HS.out w2 hb)
    rw [HN.out, ho1, hq1] at this
    exact this
  have H2 : Hid (∀ w2, Below w.heap.size w w2 → Calls Tryd.prog 5 #[.string t1, .string o1, .int .i64 m, .slice sa n sc] w2 fun e w' => e = .returned (.tuple #[.string o2, .int .i64 q2, .int .i64 0]) ∧ Below w2.heap.size w2 w') := Lib.hid fun w2 hb => by
    have := more5 t1 o1 (by omega) ho1z m (by omega) sa zs sc w2 (HS.out w2 hb)
    rw [HN.out, ht1l, ho1l, List.append_assoc, ← List.take_add, ho2, ht1z, Nat.sub_sub, hq2] at this
    exact this
  have H3 : Hid (∀ w2, Below w.heap.size w w2 → Calls Tryd.prog 5 #[.string s, .string d, .int .i64 ((a + m : Nat) : Int), .slice sa n sc] w2 fun e w' => e = .returned (.tuple #[.string o2, .int .i64 q2, .int .i64 0]) ∧ Below w2.heap.size w2 w') := Lib.hid fun w2 hb => by
    have := more5 s d hs2 (by omega) (a + m) ham sa zs sc w2 (HS.out w2 hb)
    rw [HN.out, ho2, hq2] at this
    exact this
  have H4 : Hid (∀ w2, Below w.heap.size w w2 → Calls Tryd.prog 6 #[.string s, .int .i64 ((a + m : Nat) : Int), .slice sa n sc, .bool false] w2 fun e w' => e = .returned (.tuple #[.int .i64 q2, .int .i64 0]) ∧ Below w2.heap.size w2 w') := Lib.hid fun w2 hb => by
    have := skip6 s hs2 (a + m) ham sa zs sc w2 (HS.out w2 hb)
    rw [HN.out, hq2] at this
    exact this
  have i1 : (a : Int) ≤ (s.size : Int) := by omega
  have hq1i : (s.size : Int) - (a : Int) = (q1 : Int) := by omega
  rw [hq1i] at hw1 g9
  have HM := Lib.hid (And.intro g6 g7)
  clear hll hdl ham ho1 ho2 ht1z ht1l ho1l ho1z hq1 hq2 HS hs2 h1 h2
  go_enter Tryd.func3, Tryd.ntmps3
  go_wp2_with fail
  refine HA.out.mono ?_
  rintro e w0 ⟨rfl, rfl⟩
  go_wp2_with fail
  refine (H1.out w (Below.refl _ _)).mono ?_
  rintro e w1 ⟨rfl, hb⟩
  have B1 : Hid (Below w.heap.size w w1) := Lib.hid hb
  clear hb
  go_wp2_with fail
  refine (H2.out w1 B1.out).mono ?_
  rintro e w2 ⟨rfl, hb⟩
  have B2 : Hid (Below w.heap.size w w2) := Lib.hid (B1.out.trans (hb.mono B1.out.size))
  clear hb
  go_wp2_with fail
  refine (H3.out w2 B2.out).mono ?_
  rintro e w3 ⟨rfl, hb⟩
  have B3 : Hid (Below w.heap.size w w3) := Lib.hid (B2.out.trans (hb.mono B2.out.size))
  clear hb
  go_wp2_with fail
  refine (H4.out w3 B3.out).mono ?_
  rintro e w4 ⟨rfl, hb⟩
  have B4 : Hid (Below w.heap.size w w4) := Lib.hid (B3.out.trans (hb.mono B3.out.size))
  clear hb
  go_wp2_with fail
  go_ret
  exact ⟨rfl, B4.out⟩
end Go.Proofs.YtbffilfacmdhdaaDoor.dec
