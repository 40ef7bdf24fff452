/-
  Proved: what is shared on slices of strings, and the contracts of the small checks that laws.FnStreamsKeys makes of its arguments.
  Conditions: each contract's own.
-/
import Derived.Test.YtdlimgghcpbkcaaBuf
import Derived.Test.YtdlimgghcpbkcaaShelf
import Derived.Outline
import Derived.WalkLawsBesides
import Derived.WalkSpells
import Derived.Lib.Hide
import Derived.BigQuiet
import Derived.Handy
import Derived.Deep.QuietTactic
import Derived.Deep.RegionHeld3
import Derived.Maps.AppendAt
import Derived.Lib.VarintMem
namespace Go.Proofs.Ytdlimgghcpbkcaa.strs
open Go.RowKit Mem
set_option linter.unusedVariables false

/-- A slice's elements are the strings ss. -/
structure Str (w : World) (a : Option Addr) (ss : List ByteArray) : Prop where
  at_ : ss.length = 0 ∨ ∃ A off, a = some ⟨A, off, none⟩ ∧ ∀ j (s : ByteArray), ss[j]? = some s → w.cell? ⟨A, off + j, none⟩ = some (.string s)
theorem Str.but {w w' : World} {a : Option Addr} {ss : List ByteArray} (h : Str w a ss) (hb : Below w.heap.size w w') : Str w' a ss := by
  rcases h.at_ with h0 | ⟨A, off, rfl, hc⟩
  · exact ⟨.inl h0⟩
  · exact ⟨.inr ⟨A, off, rfl, fun j s hs => by
      have h1 := hc j s hs
      exact (hb.cell (p := ⟨A, off + j, none⟩) (block_lt_of_cell h1)).trans h1⟩⟩
theorem Str.get {w : World} {a : Option Addr} {ss : List ByteArray} (h : Str w a ss) {j : Nat} (hj : j < ss.length) : ∃ A off, a = some ⟨A, off, none⟩ ∧ w.cell? ⟨A, off + j, none⟩ = some (.string (ss[j]'hj)) := by
  rcases h.at_ with h0 | ⟨A, off, rfl, hc⟩
  · omega
  · exact ⟨A, off, rfl, hc j _ (List.getElem?_eq_getElem hj)⟩

theorem ascii28 (s : ByteArray) (hs : s.size ≤ 1000) (w : World) :
    Calls Try.prog 46 #[.string s] w fun e w' => e = .returned (.bool (s.data.toList.all fun b => decide (b.toNat ≤ 127))) ∧ w = w' := by
  generalize hr : (s.data.toList.all fun b => decide (b.toNat ≤ 127)) = r
  have HR := Lib.hid hr
  clear hr
  go_enter Try.func46, Try.ntmps46
  go_wp2_with fail
  go_loop [3] (fun i => ∃ j : Nat, j ≤ s.size ∧ i = .int .i64 j ∧ Hid (∀ q (b : UInt8), q < j → s.data.toList[q]? = some b → b.toNat ≤ 127)) (fun i => s.size - (intOf i).toNat)
  case atStart => exact ⟨0, Nat.zero_le _, rfl, Lib.hid (fun q b hq => by omega)⟩
  case round =>
    obtain ⟨j, hj, rfl, hall⟩ := hrel
    by_cases hlt : j < s.size
    · have hpl : j < s.data.toList.length := by simpa using hlt
      have hget : s.data.toList[j]? = some (s[j]'hlt) := List.getElem?_eq_getElem hpl
      generalize hx : s[j]'hlt = x at *
      have HG := Lib.hid hget
      clear hget hpl
      have hjl : (j : Int) < (s.size : Int) := by omega
      have hxb := x.toNat_lt
      by_cases h127 : x.toNat ≤ 127
      · have hd : decide ((127 : Int) < (x.toNat : Int)) = false := by simp; omega
        go_wp2
        go_round
        case rel =>
          refine ⟨j + 1, by omega, by go_num, Lib.hid (fun q b hq hb => ?_)⟩
          by_cases hqj : q = j
          · subst hqj
            rw [HG.out] at hb
            cases hb
            exact h127
          · exact hall.out q b (by omega) hb
        case measure => simp [intOf]; omega
      · have hd : decide ((127 : Int) < (x.toNat : Int)) = true := by simp; omega
        have hrf : r = false := by
          rw [← HR.out, List.all_eq_false]
          exact ⟨x, List.mem_of_getElem? HG.out, by simpa using h127⟩
        subst hrf
        go_wp2
        go_ret
        exact ⟨rfl, rfl⟩
    · have hrt : r = true := by
        rw [← HR.out, List.all_eq_true]
        intro b hb
        obtain ⟨q, hq, hqb⟩ := List.mem_iff_getElem.1 hb
        have : q < s.size := by simpa using hq
        simpa using hall.out q b (by omega) (by rw [List.getElem?_eq_getElem hq, hqb])
      subst hrt
      have hjl : ¬ ((j : Int) < (s.size : Int)) := by omega
      go_wp2
      go_ret
      exact ⟨rfl, rfl⟩

/-- All of a list's strings fit a test, those ahead of j do. -/
def Ahead (p : ByteArray → Bool) (ss : List ByteArray) (j : Nat) : Prop := ∀ q (s : ByteArray), q < j → ss[q]? = some s → p s = true
theorem Ahead.zero (p : ByteArray → Bool) (ss : List ByteArray) : Ahead p ss 0 := fun q s hq => by omega
theorem Ahead.step {p : ByteArray → Bool} {ss : List ByteArray} {j : Nat} (h : Ahead p ss j) (hj : j < ss.length) (hp : p (ss[j]'hj) = true) : Ahead p ss (j + 1) := fun q s hq hs => by
  by_cases hqj : q = j
  · subst hqj
    rw [List.getElem?_eq_getElem hj] at hs
    cases hs
    exact hp
  · exact h q s (by omega) hs
theorem Ahead.all {p : ByteArray → Bool} {ss : List ByteArray} {j : Nat} (h : Ahead p ss j) (hj : ss.length ≤ j) : ss.all p = true := by
  rw [List.all_eq_true]
  intro s hs
  obtain ⟨q, hq, hqs⟩ := List.mem_iff_getElem.1 hs
  exact h q s (by omega) (by rw [List.getElem?_eq_getElem hq, hqs])
theorem not_all {p : ByteArray → Bool} {ss : List ByteArray} {j : Nat} (hj : j < ss.length) (hp : p (ss[j]'hj) = false) : ss.all p = false := by
  rw [List.all_eq_false]
  exact ⟨_, List.getElem_mem hj, by simpa using hp⟩

theorem fits16 (a : Option Addr) (cap : Nat) (ss : List ByteArray) (w : World) (h : Str w a ss) (hn : ss.length ≤ 9223372036854775807) (hz : ∀ s ∈ ss, s.size ≤ 9223372036854775807) :
    Calls Try.prog 14 #[.slice a ss.length cap] w fun e w' => e = .returned (.bool (decide (ss.length ≤ 2147483647) && ss.all fun s => decide (s.size ≤ 2147483647))) ∧ w = w' := by
  generalize hr : (decide (ss.length ≤ 2147483647) && ss.all fun s => decide (s.size ≤ 2147483647)) = r
  have HR := Lib.hid hr
  have HS := Lib.hid h
  have HZ := Lib.hid hz
  clear hr h hz
  by_cases hl : ss.length ≤ 2147483647
  · have hg : ¬ (2147483647 : Int) < (ss.length : Int) := by omega
    go_enter Try.func14, Try.ntmps14
    go_wp2_with fail
    go_loop [10] (fun i => ∃ j : Nat, j ≤ ss.length ∧ i = .int .i64 j ∧ Hid (Ahead (fun s => decide (s.size ≤ 2147483647)) ss j)) (fun i => ss.length - (intOf i).toNat)
    case atStart => exact ⟨0, Nat.zero_le _, rfl, Lib.hid (Ahead.zero _ _)⟩
    case round =>
      obtain ⟨j, hj, rfl, hall⟩ := hrel
      by_cases hlt : j < ss.length
      · obtain ⟨A, off, rfl, hc⟩ := HS.out.get hlt
        have hzz := HZ.out _ (List.getElem_mem hlt)
        have HST := Lib.hid (fun hp => Ahead.step hall.out hlt hp)
        have HNA := Lib.hid (fun hp => not_all (p := fun s => decide (s.size ≤ 2147483647)) hlt hp)
        generalize ss[j]'hlt = x at *
        have hjl : (j : Int) < (ss.length : Int) := by omega
        by_cases hx : x.size ≤ 2147483647
        · have hd : ¬ (2147483647 : Int) < (x.size : Int) := by omega
          go_wp2
          go_round
          case rel => exact ⟨j + 1, by omega, by go_num, Lib.hid (HST.out (by simpa using hx))⟩
          case measure => simp [intOf]; omega
        · have hd : (2147483647 : Int) < (x.size : Int) := by omega
          have hrf : r = false := by rw [← HR.out, HNA.out (by simpa using hx)]; simp
          subst hrf
          go_wp2
          go_ret
          exact ⟨rfl, rfl⟩
      · have hjl : ¬ (j : Int) < (ss.length : Int) := by omega
        have hrt : r = true := by rw [← HR.out, hall.out.all (by omega)]; simpa using hl
        subst hrt
        go_wp2
        go_ret
        exact ⟨rfl, rfl⟩
  · have hg : (2147483647 : Int) < (ss.length : Int) := by omega
    have hrf : r = false := by rw [← HR.out]; simp [hl]
    subst hrf
    go_enter Try.func14, Try.ntmps14
    go_wp2
    go_ret
    exact ⟨rfl, rfl⟩

theorem right17 (a : Option Addr) (cap : Nat) (ss : List ByteArray) (w : World) (h : Str w a ss) (hn : ss.length ≤ 2147483647) (hz : ∀ s ∈ ss, s.size ≤ 2147483647) :
    Calls Try.prog 31 #[.string ⟨#[]⟩, .slice a ss.length cap] w fun e w' => e = .returned (.bool (decide (ss.length ≤ 50) && ss.all fun s => decide (s.size ≤ 200))) ∧ w = w' := by
  generalize hr : (decide (ss.length ≤ 50) && ss.all fun s => decide (s.size ≤ 200)) = r
  have HR := Lib.hid hr
  have HS := Lib.hid h
  have HZ := Lib.hid hz
  clear hr h hz
  go_enter Try.func31, Try.ntmps31
  go_wp2_with fail
  go_loop [9] (fun i => ∃ j : Nat, j ≤ ss.length ∧ j ≤ 50 ∧ i = .int .i64 j ∧ Hid (Ahead (fun s => decide (s.size ≤ 200)) ss j)) (fun i => ss.length - (intOf i).toNat)
  case atStart => exact ⟨0, Nat.zero_le _, by omega, rfl, Lib.hid (Ahead.zero _ _)⟩
  case round =>
    obtain ⟨j, hj, hj50, rfl, hall⟩ := hrel
    by_cases hlt : j < ss.length
    · obtain ⟨A, off, rfl, hc⟩ := HS.out.get hlt
      have hzz := HZ.out _ (List.getElem_mem hlt)
      have HST := Lib.hid (fun hp => Ahead.step hall.out hlt hp)
      have HNA := Lib.hid (fun hp => not_all (p := fun s => decide (s.size ≤ 200)) hlt hp)
      generalize ss[j]'hlt = x at *
      have hjl : (j : Int) < (ss.length : Int) := by omega
      by_cases h50 : j = 50
      · subst h50
        have hrf : r = false := by rw [← HR.out]; simp; omega
        subst hrf
        go_wp2
        go_ret
        exact ⟨rfl, rfl⟩
      have h5 : ¬ (50 : Int) ≤ (j : Int) := by omega
      by_cases hx : x.size ≤ 200
      · have hd : ¬ (200 : Int) < (x.size : Int) := by omega
        go_wp2
        go_round
        case rel => exact ⟨j + 1, by omega, by omega, by go_num, Lib.hid (HST.out (by simpa using hx))⟩
        case measure => simp [intOf]; omega
      · have hd : (200 : Int) < (x.size : Int) := by omega
        have hrf : r = false := by rw [← HR.out, HNA.out (by simpa using hx)]; simp
        subst hrf
        go_wp2
        go_ret
        exact ⟨rfl, rfl⟩
    · have hjl : ¬ (j : Int) < (ss.length : Int) := by omega
      have hrt : r = true := by rw [← HR.out, hall.out.all (by omega)]; simp; omega
      subst hrt
      go_wp2_with fail
      refine (ascii28 ⟨#[]⟩ (by decide) _).mono ?_
      rintro e w1 ⟨rfl, rfl⟩
      go_wp2
      go_ret
      exact ⟨rfl, rfl⟩

theorem same20 (a b : Option Addr) (ca cb : Nat) (ss : List ByteArray) (w : World) (ha : Str w a ss) (hb : Str w b ss) (hn : ss.length ≤ 1000) :
    Calls Try.prog 17 #[.slice a ss.length ca, .slice b ss.length cb] w fun e w' => e = .returned (.bool true) ∧ w = w' := by
  have HA := Lib.hid ha
  have HB := Lib.hid hb
  clear ha hb
  go_enter Try.func17, Try.ntmps17
  go_wp2_with fail
  go_loop [14] (fun i => ∃ j : Nat, j ≤ ss.length ∧ i = .int .i64 j) (fun i => ss.length - (intOf i).toNat)
  case atStart => exact ⟨0, Nat.zero_le _, rfl⟩
  case round =>
    obtain ⟨j, hj, rfl⟩ := hrel
    by_cases hlt : j < ss.length
    · obtain ⟨A, off, rfl, hc⟩ := HA.out.get hlt
      obtain ⟨B, off2, rfl, hd⟩ := HB.out.get hlt
      generalize ss[j]'hlt = x at *
      have hjl : (j : Int) < (ss.length : Int) := by omega
      go_wp2
      go_round
      case rel => exact ⟨j + 1, by omega, by go_num⟩
      case measure => simp [intOf]; omega
    · have hjl : ¬ (j : Int) < (ss.length : Int) := by omega
      go_wp2
      go_ret
      exact ⟨rfl, rfl⟩

theorem info_str : (Try.prog.info? 9).map (fun i => (i.zero, i.size, i.bytes)) = some (some (.string ByteArray.empty), 1, 16) := by kernel_rfl
/-- append([]string{}, ss...). -/
theorem app_strs {w : World} (g : Nat) (hg : w.heap[g]? = some (.cells #[] 9 (0, 0))) (a : Option Addr) (c : Nat) (ss : List ByteArray) (h : Str w a ss) (hn : ss.length ≤ 50) (hnone : a = none → ss.length = 0) (ty : TypeId) :
    ∃ a' c' w', (Builtin.append_ #[29, 29] ty #[.slice (some ⟨g, 0, none⟩) 0 0, .slice a ss.length c]).run Try.prog w = .ok (.slice a' ss.length c') w' ∧ ss.length ≤ c' ∧ Str w' a' ss ∧ But [g] w w' ∧ ∀ A off, a' = some ⟨A, off, none⟩ → g ≤ A := by
  obtain ⟨i, hi, hz, hz1, hz2⟩ := info_parts info_str
  have hlt := (Array.getElem?_eq_some_iff.1 hg).1
  cases a with
  | none =>
    have h0 := hnone rfl
    refine ⟨some ⟨g, 0, none⟩, 0, w, ?_, by omega, ⟨.inl h0⟩, But.refl _ _, fun A off e => by cases e; exact Nat.le_refl _⟩
    rw [h0]
    have hf := run_firstCells_none (P := Try.prog) w 1
    simp [Builtin.append_, run_underlying Try.underlying29, sizeOf, typeInfo, hi, hz1, Builtin.lenOf]
    rw [hf]
    rfl
  | some ad =>
    have hown : w.ownsRow g 9 1 (.slice (some ⟨g, 0, none⟩) 0 0) 0 [] := ⟨rfl, .inr ⟨g, 0, #[], rfl, Nat.le_refl _, hg, Nat.le_refl _, by unfold maxLen; omega, rfl, rfl⟩⟩
    have hnews : ∀ j u, (ss.map Value.string)[j]? = some u → w.cell? (ad.add j) = some u := by
      intro j u hu
      simp only [List.getElem?_map, Option.map_eq_some_iff] at hu
      obtain ⟨s, hs, rfl⟩ := hu
      rcases h.at_ with h0 | ⟨A, off, e, hc⟩
      · rw [List.getElem?_eq_none (by omega)] at hs
        cases hs
      · cases e
        rw [Addr.add_lit]
        exact hc j s hs
    obtain ⟨v', w', hr, hown', hgr, _, _⟩ := run_append_own_at (P := Try.prog) w g 29 ty 9 i (.string ByteArray.empty) 1 16 Try.underlying29 hi hz hz1 hz2 rfl (by omega) _ 0 [] hown ad ss.length c (ss.map Value.string) (by simp) hnews (fun u hu => by
      obtain ⟨s, _, rfl⟩ := List.mem_map.1 hu
      rfl) (by unfold maxLen; omega) (by omega) (by omega)
    have hbut : But [g] w w' := (But.refl [g] w).grown hgr (fun k hk => by simp [Value.ownBlock] at hk; exact Or.inl (by simp [hk]))
    rw [Nat.zero_add, List.nil_append] at hown'
    rcases hown'.2 with ⟨rfl, h0⟩ | ⟨g', cap', cur, rfl, hb, hgg, hle, hm, hcs, htk⟩
    · exact ⟨none, 0, w', by rw [hr, h0], by omega, ⟨.inl h0⟩, hbut, fun A off e => by cases e⟩
    · refine ⟨_, cap', w', hr, hle, ⟨.inr ⟨g', 0, rfl, fun j s hs => ?_⟩⟩, hbut, fun A off e => by cases e; exact hb⟩
      have hj := (List.getElem?_eq_some_iff.1 hs).1
      rw [Nat.zero_add, cell_of_row _ _ j _ _ _ hgg]
      rw [Nat.mul_one] at htk
      have : cur[j]? = (ss.map Value.string)[j]? := by rw [← htk]; simp [hj]
      rw [this, List.getElem?_map, hs]
      rfl
end Go.Proofs.Ytdlimgghcpbkcaa.strs
