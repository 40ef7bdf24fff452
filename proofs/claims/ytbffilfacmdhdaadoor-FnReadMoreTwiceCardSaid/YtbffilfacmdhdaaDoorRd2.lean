/-
  Proved: what Read gives, in either way, and a measure that falls.
  Conditions: a reader that has bytes left.
-/
import Derived.Test.YtbffilfacmdhdaaDoorRd1
namespace Go.Proofs.YtbffilfacmdhdaaDoor.dec
open Go.RowKit Mem rw
set_option linter.unusedVariables false

theorem method_read (a : Addr) (w : World) : (method 243 29 (.pointer (some a)) "Read").run Tryd.prog w = .ok (48, .pointer (some a)) w := by kernel_rfl
theorem nil_read (a : Addr) (w : World) : (nilAhead 243 29 (.pointer (some a)) "Read").run Tryd.prog w = .ok (some false) w := by kernel_rfl

/-- What Read gives, in either way. -/
theorem read_any (G : Cfg) (hG : Base G) (B cap : Nat) (l left : List UInt8) (at_ : Nat) (w : World) (hlen : left.length ≤ 4000) (hcap : cap ≤ 1000000) (hR : G.R ≠ B) (hl : left ≠ [])
    (hr : Rd G w left at_) (hbel : Below G.w0.heap.size G.w0 w) (hB : BufAt w B l cap) :
    Calls Tryd.prog 48 #[.pointer (some ⟨G.R, 0, none⟩), .slice (some ⟨B, l.length, none⟩) (cap - l.length) (cap - l.length)] w fun e w' => ∃ m at' : Nat, e = .returned (.tuple #[.int .i64 m, .nilIface]) ∧ Hid (Red G w w' B cap l left at_ m at') := by
  by_cases hz : G.zs = []
  · exact read_all G B cap l left at_ w hz hl (by omega) hcap hR hr.row hB
  · have hlz : 0 < G.zs.length := List.length_pos_iff.2 hz
    have hk : at_ % G.zs.length < G.zs.length := Nat.mod_lt _ hlz
    have hzz : G.zs[at_ % G.zs.length]? = some (G.zs[at_ % G.zs.length]'hk) := List.getElem?_eq_getElem hk
    obtain ⟨A, off, hsa, hc⟩ := hG.sizes _ _ hzz
    have hlt : A < G.w0.heap.size := block_lt_of_cell hc
    exact read_some G B cap l left at_ w _ A off hzz (hG.big _ (List.getElem_mem hk)) hsa ((hbel.cell (p := ⟨A, off + _, none⟩) hlt).trans hc) (by have := hr.le; omega) (by have := hG.rlo; omega) hG.few hl (by omega) hcap hR hr.row hB

theorem dist_lt (j0 n a : Nat) (hj : j0 < n) : dist j0 n a < n := by
  unfold dist
  have := Nat.mod_lt a (show 0 < n by omega)
  split <;> omega
theorem dist_step (j0 n a : Nat) (hj : j0 < n) (hne : a % n ≠ j0) : dist j0 n (a + 1) + 1 = dist j0 n a := by
  have h0 : 0 < n := by omega
  have ha := Nat.mod_lt a h0
  have hd : (a + 1) % n = if a % n + 1 = n then 0 else a % n + 1 := by
    have h1 : (a + 1) % n = (a % n + 1) % n := by simp [Nat.add_mod]
    rw [h1]
    split
    · rename_i e; rw [e, Nat.mod_self]
    · rw [Nat.mod_eq_of_lt (by omega)]
  unfold dist
  rw [hd]
  split <;> split <;> (try split) <;> omega
/-- The first size of more than nothing. -/
def j0 (G : Cfg) : Nat := G.zs.findIdx fun z => decide (0 < z)
theorem j0_spec (G : Cfg) (hG : Base G) (hz : G.zs ≠ []) : j0 G < G.zs.length ∧ ∀ z, G.zs[j0 G]? = some z → 0 < z := by
  rcases hG.pos with h | ⟨j, z, hj, hp⟩
  · exact absurd h hz
  · have hlt : j0 G < G.zs.length := List.findIdx_lt_length_of_exists ⟨z, List.mem_of_getElem? hj, by simpa using hp⟩
    refine ⟨hlt, fun z' hz' => ?_⟩
    have := List.findIdx_getElem (p := fun z => decide (0 < z)) (xs := G.zs) (w := hlt)
    rw [List.getElem?_eq_getElem hlt] at hz'
    cases hz'
    exact of_decide_eq_true this
def rank (G : Cfg) (n at_ : Nat) : Nat := n * (G.zs.length + 1) + dist (j0 G) G.zs.length at_
theorem rd_next {G : Cfg} (hG : Base G) {w w' : World} {B cap : Nat} {l left : List UInt8} {at_ m at' : Nat} (h : Rd G w left at_) (r : Red G w w' B cap l left at_ m at') (hl : left ≠ []) (hroom : l.length < cap) :
    Rd G w' (left.drop m) at' ∧ rank G (left.length - m) at' < rank G left.length at_ := by
  have hpos : 0 < left.length := List.length_pos_iff.2 hl
  have hle := h.le
  have hdl : (left.drop m).length = left.length - m := List.length_drop
  by_cases hz : G.zs = []
  · obtain ⟨e1, e2⟩ := r.all hz
    have hzl : G.zs.length = 0 := by rw [hz]; rfl
    have hd : ∀ a, dist (j0 G) 0 a = 0 ∨ a % 0 ≤ j0 G := fun a => by unfold dist; split <;> omega
    subst e1
    refine ⟨⟨r.row, h.few, ?_⟩, ?_⟩
    · rw [hdl, hzl] at *
      have := Nat.mul_zero (left.length - m)
      omega
    · unfold rank
      rw [hzl]
      have : left.length - m < left.length := by omega
      omega
  · obtain ⟨hj, hjz⟩ := j0_spec G hG hz
    have hlz : 0 < G.zs.length := List.length_pos_iff.2 hz
    have hk : at_ % G.zs.length < G.zs.length := Nat.mod_lt _ hlz
    have hzz : G.zs[at_ % G.zs.length]? = some (G.zs[at_ % G.zs.length]'hk) := List.getElem?_eq_getElem hk
    obtain ⟨e1, e2⟩ := r.some _ hzz
    have d1 := dist_lt (j0 G) G.zs.length (at_ + 1) hj
    have hle' : at_ + left.length * G.zs.length + dist (j0 G) G.zs.length at_ ≤ 1000000 := hle
    subst e1
    by_cases hm : m = 0
    · have hne : at_ % G.zs.length ≠ j0 G := by
        intro e
        have hz0 := hjz (G.zs[at_ % G.zs.length]'hk) (by rw [← e]; exact hzz)
        omega
      have ds := dist_step (j0 G) G.zs.length at_ hj hne
      subst hm
      refine ⟨⟨r.row, fun e => absurd e hz, ?_⟩, ?_⟩
      · rw [hdl, Nat.sub_zero]
        show at_ + 1 + left.length * G.zs.length + dist (j0 G) G.zs.length (at_ + 1) ≤ 1000000
        omega
      · unfold rank
        rw [Nat.sub_zero]
        omega
    · obtain ⟨c, hc⟩ : ∃ c, left.length = m + c := ⟨left.length - m, by have := r.m1; omega⟩
      have e3 : left.length - m = c := by omega
      have m1 : G.zs.length ≤ m * G.zs.length := Nat.le_mul_of_pos_left _ (by omega)
      have m2 : (m + c) * G.zs.length = m * G.zs.length + c * G.zs.length := Nat.add_mul ..
      have m3 : (m + c) * (G.zs.length + 1) = (m + c) * G.zs.length + (m + c) := Nat.mul_succ ..
      have m4 : c * (G.zs.length + 1) = c * G.zs.length + c := Nat.mul_succ ..
      refine ⟨⟨r.row, fun e => absurd e hz, ?_⟩, ?_⟩
      · rw [hdl, e3]
        show at_ + 1 + c * G.zs.length + dist (j0 G) G.zs.length (at_ + 1) ≤ 1000000
        rw [hc] at hle'
        omega
      · unfold rank
        rw [e3, hc]
        omega
end Go.Proofs.YtbffilfacmdhdaaDoor.dec
