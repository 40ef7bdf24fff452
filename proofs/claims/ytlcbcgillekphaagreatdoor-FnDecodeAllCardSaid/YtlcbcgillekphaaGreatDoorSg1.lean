/-
  Proved: laws.FnDecodeAll returns true.
  Conditions: the sizes lie in memory, the listed variables are laid.
-/
import Derived.Test.YtlcbcgillekphaaGreatDoorSdo
import Derived.Test.YtlcbcgillekphaaGreatDoorGj
namespace Go.Proofs.YtlcbcgillekphaaGreatDoor.dec
open Go.RowKit Mem rw ent
set_option linter.unusedVariables false
set_option linter.unusedSimpArgs false

set_option maxRecDepth 100000 in
set_option maxHeartbeats 2000000 in
theorem law3 (s : ByteArray) (hs : s.size ≤ 9223372036854775807) (sa : Option Addr) (zs : List Int) (sc : Nat) (hn : zs.length ≤ 9223372036854775807) (w : World) (ev : Addr) (hc : Ctx w ev) (ho : Ovr w) (hz : ∀ (j : Nat) (z : Int), zs[j]? = some z → ∃ A off, sa = some ⟨A, off, none⟩ ∧ w.cell? ⟨A, off + j, none⟩ = some (.int .i64 z)) (hbg : ∀ z ∈ zs, z ≤ 9223372036854775807) :
    Calls Tryz.prog 3 #[.string s, .slice sa zs.length sc] w fun e w' => e = .returned (.bool true) ∧ Below w.heap.size w w' := by
  obtain ⟨n, hln⟩ : ∃ n, zs.length = n := ⟨_, rfl⟩
  rw [hln] at hn ⊢
  have HLN := Lib.hid hln
  have HC := Lib.hid (And.intro hc (And.intro ho (And.intro hz hbg)))
  clear hln hc ho hz hbg
  by_cases h1 : s.size ≤ 2000
  · by_cases h2 : n ≤ 100
    · have HA := Lib.hid (all5 s (by omega) sa zs sc w ev HC.out.1 HC.out.2.1 ⟨HC.out.2.2.1, by rw [HLN.out]; omega, HC.out.2.2.2⟩)
      rw [HLN.out] at HA
      have hb1 : ¬ (2147483647 : Int) < (s.size : Int) := by omega
      have hb2 : ¬ (2147483647 : Int) < (n : Int) := by omega
      have hb3 : ¬ (2000 : Int) < (s.size : Int) := by omega
      have hb4 : ¬ (100 : Int) < (n : Int) := by omega
      go_enter Tryz.func3, Tryz.ntmps3
      go_wp2_with fail
      refine HA.out.mono ?_
      rintro e w1 ⟨v, l, rfl, h1⟩
      have HE := Lib.hid (sd.entries7 s (by omega) w1)
      clear HA
      dsimp only
      go_wp2_with fail
      refine HE.out.mono ?_
      rintro e w2 ⟨v', l', rfl, h2⟩
      have HS := Lib.hid (sam.same6 l l' (h1.out.2.1.trans h2.out.2.1.symm) v v' w2 _ _ (h1.out.1.below h2.out.2.2.2) h2.out.1)
      clear HE
      dsimp only
      go_wp2_with fail
      refine HS.out.mono ?_
      rintro e w3 ⟨rfl, h3⟩
      have HB := Lib.hid (h1.out.2.2.2.trans (((h2.out.2.2.2).trans h3.out).toBelow.mono h1.out.2.2.2.size))
      clear HS h1 h2 h3
      dsimp only
      go_wp2_with fail
      go_ret
      exact ⟨rfl, HB.out⟩
    · have hb3 : ¬ (2000 : Int) < (s.size : Int) := by omega
      have hb1 : ¬ (2147483647 : Int) < (s.size : Int) := by omega
      have hb4 : (100 : Int) < (n : Int) := by omega
      by_cases h3 : (2147483647 : Int) < (n : Int)
      · go_enter Tryz.func3, Tryz.ntmps3
        go_wp2_with fail
        go_ret
        exact ⟨rfl, Below.refl _ _⟩
      · go_enter Tryz.func3, Tryz.ntmps3
        go_wp2_with fail
        go_ret
        exact ⟨rfl, Below.refl _ _⟩
  · have hb3 : (2000 : Int) < (s.size : Int) := by omega
    by_cases h3 : (2147483647 : Int) < (s.size : Int)
    · go_enter Tryz.func3, Tryz.ntmps3
      go_wp2_with fail
      go_ret
      exact ⟨rfl, Below.refl _ _⟩
    · by_cases h4 : (2147483647 : Int) < (n : Int)
      · go_enter Tryz.func3, Tryz.ntmps3
        go_wp2_with fail
        go_ret
        exact ⟨rfl, Below.refl _ _⟩
      · go_enter Tryz.func3, Tryz.ntmps3
        go_wp2_with fail
        go_ret
        exact ⟨rfl, Below.refl _ _⟩
end Go.Proofs.YtlcbcgillekphaaGreatDoor.dec
