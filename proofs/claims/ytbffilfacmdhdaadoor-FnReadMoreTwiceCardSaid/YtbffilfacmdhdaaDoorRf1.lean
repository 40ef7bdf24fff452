/-
  Proved: the contract of newReader.
  Conditions: sizes of at most 100 pieces in memory.
-/
import Derived.Test.YtbffilfacmdhdaaDoorRe5
namespace Go.Proofs.YtbffilfacmdhdaaDoor.dec
open Go.RowKit Mem rw
set_option linter.unusedVariables false
/-- The sizes of the pieces. -/
structure SzAt (w : World) (sa : Option Addr) (zs : List Int) : Prop where
  at_ : ∀ (j : Nat) (z : Int), zs[j]? = some z → ∃ A off, sa = some ⟨A, off, none⟩ ∧ w.cell? ⟨A, off + j, none⟩ = some (.int .i64 z)
  few : zs.length ≤ 100
  big : ∀ z ∈ zs, z ≤ 9223372036854775807
theorem SzAt.nil (w : World) (sa : Option Addr) : SzAt w sa [] := ⟨fun j z h => by simp at h, by simp, by simp⟩
theorem SzAt.below {w w' : World} {sa : Option Addr} {zs : List Int} (h : SzAt w sa zs) (hb : Below w.heap.size w w') : SzAt w' sa zs :=
  ⟨fun j z hz => by
    obtain ⟨A, off, h1, h2⟩ := h.at_ j z hz
    exact ⟨A, off, h1, (hb.cell (block_lt_of_cell h2)).trans h2⟩, h.few, h.big⟩
def some0 (zs : List Int) : Bool := zs.any fun z => decide (0 < z)
def szs (zs : List Int) : List Int := if some0 zs = true then zs else []
def szv (sa : Option Addr) (zs : List Int) (sc : Nat) : Value := if some0 zs = true then .slice sa zs.length sc else .slice none 0 0
theorem szs_some {zs : List Int} : szs zs = [] ∨ ∃ (j : Nat) (z : Int), (szs zs)[j]? = some z ∧ 0 < z := by
  unfold szs
  cases h : some0 zs with
  | false => exact .inl rfl
  | true =>
    obtain ⟨z, hz, hz0⟩ := List.any_eq_true.1 h
    obtain ⟨j, hj⟩ := List.getElem?_of_mem hz
    exact .inr ⟨j, z, by rw [if_pos rfl]; exact hj, by simpa using hz0⟩
theorem dist0 (zs : List Int) (h : zs.length ≤ 100) : dist (zs.findIdx fun z => decide (0 < z)) zs.length 0 ≤ 300 := by
  have h1 : (zs.findIdx fun z => decide (0 < z)) ≤ zs.length := List.findIdx_le_length
  unfold dist
  split <;> omega
set_option maxRecDepth 100000 in
theorem reader15 (s : ByteArray) (sa : Option Addr) (zs : List Int) (sc : Nat) (w : World) (hz : SzAt w sa zs) :
    Calls Tryd.prog 15 #[.string s, .slice sa zs.length sc, .bool false] w fun e w' => e = .returned (.pointer (some ⟨w.heap.size, 0, none⟩)) ∧ w.alloc (.cells #[.string s, szv sa zs sc, .int .i64 0, .bool false] 61) = w' := by
  have HZ := Lib.hid hz
  have hfew := hz.few
  obtain ⟨n, hn⟩ : ∃ n, zs.length = n := ⟨_, rfl⟩
  rw [hn] at hfew
  have HN := Lib.hid hn
  have HFIN : Hid (∀ b, some0 zs = b → szv sa zs sc = if b = true then .slice sa n sc else .slice none 0 0) := Lib.hid fun b hb => by unfold szv; rw [hb, hn]
  rw [hn]
  clear hz hn
  go_enter Tryd.func15, Tryd.ntmps15
  go_wp2_with fail
  go_loopg [7, 9, 12] n (fun g s7 s9 s12 wr => ∃ i : Nat, i + g = n ∧ s12 = .int .i64 i ∧ Hid (s7 = .bool ((zs.take i).any fun z => decide (0 < z))) ∧ w = wr)
  case atStart => exact ⟨0, by omega, rfl, Lib.hid rfl, rfl⟩
  case round =>
    obtain ⟨i, hi, rfl, hs7, rfl⟩ := hrel
    obtain ⟨b7, hb7⟩ : ∃ b7, ((zs.take i).any fun z => decide (0 < z)) = b7 := ⟨_, rfl⟩
    have hs := hs7.out
    rw [hb7] at hs
    have HB7 := Lib.hid hb7
    subst hs
    clear hs7 hb7
    cases gk with
    | zero =>
      have hin : ¬ (i : Int) < (n : Int) := by omega
      have HI := Lib.hid (show i = n by omega)
      have HS : Hid (some0 zs = b7) := Lib.hid (by
        rw [← HB7.out, HI.out, ← HN.out, List.take_length]; rfl)
      have HV := Lib.hid (HFIN.out b7 HS.out)
      clear hi
      cases b7 with
      | true =>
        go_wp2_with fail
        go_ret
        exact ⟨rfl, by rw [HV.out]; rfl⟩
      | false =>
        go_wp2_with fail
        go_ret
        exact ⟨rfl, by rw [HV.out]; rfl⟩
    | succ g =>
      have hin : (i : Int) < (n : Int) := by omega
      have hil : i < zs.length := by rw [HN.out]; omega
      obtain ⟨A, off, rfl, hcell⟩ := HZ.out.at_ i zs[i] (List.getElem?_eq_getElem hil)
      obtain ⟨z, hzz⟩ : ∃ z, zs[i] = z := ⟨_, rfl⟩
      rw [hzz] at hcell
      have HT : Hid (((zs.take (i + 1)).any fun z => decide (0 < z)) = (b7 || decide (0 < z))) := Lib.hid (by
        rw [List.take_succ_eq_append_getElem hil, List.any_append, HB7.out, hzz]; simp)
      clear hzz hil
      cases b7 with
      | true =>
        go_wp2_with fail
        go_roundg g
        case measure => omega
        case rel => exact ⟨i + 1, by omega, by go_num, Lib.hid (by rw [HT.out]; rfl), rfl⟩
      | false =>
        by_cases hz0 : 0 < z
        · go_wp2_with fail
          go_roundg g
          case measure => omega
          case rel => exact ⟨i + 1, by omega, by go_num, Lib.hid (by rw [HT.out]; simp [hz0]), rfl⟩
        · go_wp2_with fail
          go_roundg g
          case measure => omega
          case rel => exact ⟨i + 1, by omega, by go_num, Lib.hid (by rw [HT.out]; simp [hz0]), rfl⟩
end Go.Proofs.YtbffilfacmdhdaaDoor.dec
