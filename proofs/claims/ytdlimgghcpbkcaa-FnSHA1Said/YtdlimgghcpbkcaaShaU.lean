/-
  Proved: the law FnSHA1 walked: it returns true for every string.
  Conditions: none.
-/
import Derived.Test.YtdlimgghcpbkcaaShaT
namespace Go.Proofs.Ytdlimgghcpbkcaa.sha
open Go.RowKit Mem Go.Great
set_option linter.unusedVariables false

set_option maxRecDepth 100000 in
set_option maxHeartbeats 400000 in
theorem sha4 (s : ByteArray) (w : World) : Calls Try.prog 4 #[.string s] w fun e w' => e = .returned (.bool true) ∧ Below w.heap.size w w' := by
  by_cases h1 : 2147483647 < s.size
  · go_enter Try.func4, Try.ntmps4
    go_wp2
    go_ret
    exact ⟨rfl, Below.refl _ _⟩
  by_cases h2 : 2000 < s.size
  · go_enter Try.func4, Try.ntmps4
    go_wp2
    go_ret
    exact ⟨rfl, Below.refl _ _⟩
  have hsz : s.size ≤ 100000 := by omega
  obtain ⟨w1, hw1⟩ : ∃ w1, w.alloc (.cells #[.string s] 9) = w1 := ⟨_, rfl⟩
  have b1 : Below w.heap.size w w1 := hw1 ▸ ((But.refl [] w).alloc _).toBelow
  have c1 : w1.cell? ⟨w.heap.size, 0, none⟩ = some (.string s) := by rw [← hw1, cell_of_row _ _ 0 _ _ _ (Go.heap_alloc_new w _)]; rfl
  obtain ⟨r, hr⟩ : ∃ r : ByteArray, (⟨(sum s.data.toList).toArray⟩ : ByteArray) = r := ⟨_, rfl⟩
  obtain ⟨z, hz⟩ : ∃ z : ByteArray, (⟨(sum []).toArray⟩ : ByteArray) = z := ⟨_, rfl⟩
  have hzs : z.size ≤ 100000 := by rw [← hz]; show (20 : Nat) ≤ 100000; omega
  have hzl : z.data.toList = sum [] := by rw [← hz]
  have HA := sha10 1 (by omega) (some ⟨w.heap.size, 0, none⟩) 1 s hsz w1 (fun h => absurd h (by omega)) (fun _ => ⟨_, rfl, c1⟩)
  have HB := fun W => sha10 0 (by omega) none 0 ⟨#[]⟩ (by decide) W (fun _ => ⟨rfl, rfl, rfl⟩) (fun h => absurd h (by omega))
  have HC := spec11 s hsz
  have HD := hex12 z hzs
  rw [hr] at HA
  simp only [hr] at HC
  simp only [hzl, hex_empty] at HD
  replace HB : ∀ W : World, Calls Try.prog 10 #[.slice none 0 0] W fun e w' => e = .returned (.tuple #[.string z, .bool true]) ∧ Below W.heap.size W w' := fun W => hz ▸ HB W
  replace HA := Lib.hid HA
  replace HB := Lib.hid HB
  replace HC := Lib.hid HC
  replace HD := Lib.hid HD
  have B1 := Lib.hid b1
  clear hr hz hzs hzl b1 c1
  go_enter Try.func4, Try.ntmps4
  go_wp2_with (fail)
  refine HA.out.mono ?_
  rintro e w2 ⟨rfl, hb2⟩
  have B2 : Hid (Below w.heap.size w w2) := Lib.hid (B1.out.trans (hb2.mono B1.out.size))
  clear hb2 hw1
  go_wp2_with (fail)
  refine (HB.out _).mono ?_
  rintro e w3 ⟨rfl, hb3⟩
  have B3 : Hid (Below w.heap.size w w3) := Lib.hid (B2.out.trans (hb3.mono B2.out.size))
  clear hb3
  go_wp2_with (first
    | (go_at_call 11; refine (HC.out _).mono ?_; rintro e w4 ⟨rfl, hb4⟩; (have B4 : Hid (Below w.heap.size w w4) := Lib.hid (B3.out.trans (hb4.mono B3.out.size))); clear hb4)
    | (go_at_call 12; refine (HD.out _).mono ?_; rintro e w5 ⟨rfl, hb5⟩; (have B5 : Hid (Below w.heap.size w w5) := Lib.hid (B4.out.trans (hb5.mono B4.out.size))); clear hb5))
  go_ret
  exact ⟨by simp, B5.out⟩
end Go.Proofs.Ytdlimgghcpbkcaa.sha
