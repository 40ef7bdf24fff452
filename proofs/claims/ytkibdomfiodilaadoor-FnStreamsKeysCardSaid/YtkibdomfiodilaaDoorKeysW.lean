/-
  Proved: the contracts of spec.StreamsKeys, of findStreamsKeys, spec.SameTexts and impl.StreamsKeys.
  Conditions: at most 50 strings, each of at most 200 bytes below 128.
-/
import Derived.Test.YtkibdomfiodilaaDoorKeys
namespace Go.Proofs.YtkibdomfiodilaaDoor.strs
open Go.RowKit Mem
set_option linter.unusedVariables false

/-- What a function that tells the keys leaves. -/
def KeysOut (w : World) (ks : List ByteArray) (e : Ending) (w' : World) : Prop :=
  ∃ a c, e = .returned (.slice a ks.length c) ∧ ks.length ≤ c ∧ Str w' a ks ∧ Below w.heap.size w w' ∧ (a = none → ks.length = 0 ∧ c = 0)

theorem Str.part' {w : World} {A off : Nat} {ss : List ByteArray} (h : Str w (some ⟨A, off, none⟩) ss) (i m : Nat) : Str w (some ⟨A, off + i, none⟩) ((ss.drop i).take m) := by
  rcases h.at_ with h0 | ⟨A', off', e, hc⟩
  · exact ⟨.inl (by simp; omega)⟩
  · cases e
    exact Str.part hc i m
theorem ahead_step {ss : List ByteArray} {j : Nat} {x : ByteArray} (h : ∀ (q : Nat) (s : ByteArray), q < j → ss[q]? = some s → (up s).toList ≠ word) (hx : ss[j]? = some x) (hw : (up x).toList ≠ word) :
    ∀ (q : Nat) (s : ByteArray), q < j + 1 → ss[q]? = some s → (up s).toList ≠ word := fun q s hq hs => by
  by_cases hqj : q = j
  · subst hqj
    rw [hx] at hs
    cases hs
    exact hw
  · exact h q s (by omega) hs

theorem spec21 (a : Option Addr) (cap : Nat) (ss : List ByteArray) (w : World) (h : Str w a ss) (hn : ss.length ≤ 50) (hz : ∀ s ∈ ss, s.size ≤ 200) (hcap : ss.length ≤ cap) :
    Calls Tryd.prog 21 #[.slice a ss.length cap] w (KeysOut w (keysOf ss)) := by
  have HS := Lib.hid h
  have HZ := Lib.hid hz
  clear h hz
  go_enter Tryd.func21, Tryd.ntmps21
  go_wp2_with fail
  go_loopw [8] (fun i wr => ∃ j : Nat, j ≤ ss.length ∧ i = .int .i64 j ∧ Hid (∀ (q : Nat) (s : ByteArray), q < j → ss[q]? = some s → (up s).toList ≠ word) ∧ Below w.heap.size w wr) (fun i _ => ss.length - (intOf i).toNat)
  case atStart => exact ⟨0, Nat.zero_le _, rfl, Lib.hid (fun q s hq => by omega), Below.refl _ _⟩
  case round =>
    obtain ⟨j, hj, rfl, hall, hbe⟩ := hrel
    have HBE := Lib.hid hbe
    clear hbe
    by_cases hlt : j < ss.length
    · obtain ⟨A, off, rfl, hc0⟩ := HS.out.get hlt
      have hc := (HBE.out.cell (p := ⟨A, off + j, none⟩) (block_lt_of_cell hc0)).trans hc0
      have hzz := HZ.out _ (List.getElem_mem hlt)
      have hu := upper31 (ss[j]'hlt) (by omega) wr
      have HU := Lib.hid hu
      have HAT := Lib.hid (fun hw => keysOf_at ss j hall.out hlt hw)
      have HG := Lib.hid (List.getElem?_eq_getElem hlt)
      clear hu hc0
      generalize ss[j]'hlt = x at *
      have hjl : (j : Int) < (ss.length : Int) := by omega
      by_cases hw : (up x).toList = word
      · have hb : ((up x).toList == [83, 84, 82, 69, 65, 77, 83]) = true := by rw [hw]; rfl
        have hks := HAT.out hw
        have hq : Int.tdiv (((ss.length - (j + 1) : Nat) : Int) + 1) 2 = (((ss.length - (j + 1) + 1) / 2 : Nat) : Int) := by rw [Int.tdiv_eq_ediv_of_nonneg (by omega)]; omega
        have hkl : (keysOf ss).length = (ss.length - (j + 1) + 1) / 2 := by rw [hks]; simp; omega
        generalize hm : (ss.length - (j + 1) + 1) / 2 = m at *
        have hml : m ≤ ss.length - (j + 1) := by omega
        have HKS := Lib.hid hks
        have HKL := Lib.hid hkl
        generalize up x = u at *
        clear HAT hks hkl hw
        go_wp2_with fail
        refine HU.out.mono ?_
        rintro e w1 ⟨rfl, hb1⟩
        have HB1 := Lib.hid hb1
        clear hb1
        have hs1 : Str w1 (some ⟨A, off, none⟩) ss := HS.out.but (HBE.out.trans (HB1.out.mono HBE.out.size))
        have HS1 := Lib.hid hs1
        clear hs1
        go_wp2
        case inl =>
          go_ret
          exact ⟨_, 0, by rw [HKL.out]; rfl, by rw [HKL.out]; omega, ⟨.inl (by rw [HKL.out]; omega)⟩, HBE.out.trans (HB1.out.mono HBE.out.size), fun h => by cases h⟩
        case inr =>
          go_ret
          exact ⟨_, cap - (j + 1), by rw [HKL.out]; rfl, by rw [HKL.out]; omega, by rw [HKS.out]; exact Str.part' HS1.out _ _, HBE.out.trans (HB1.out.mono HBE.out.size), fun h => by cases h⟩
      · have hb : ((up x).toList == [83, 84, 82, 69, 65, 77, 83]) = false := beq_eq_false_iff_ne.2 hw
        have HN := Lib.hid (ahead_step hall.out HG.out hw)
        generalize up x = u at *
        clear HAT hw
        go_wp2_with fail
        refine HU.out.mono ?_
        rintro e w1 ⟨rfl, hb1⟩
        have HB1 := Lib.hid hb1
        clear hb1
        go_wp2
        go_roundw
        case rel => exact ⟨j + 1, by omega, by go_num, HN, HBE.out.trans (HB1.out.mono HBE.out.size)⟩
        case measure => simp [intOf]; omega
    · have hk : keysOf ss = [] := keysOf_none ss (fun q s hs => hall.out q s (by have := (List.getElem?_eq_some_iff.1 hs).1; omega) hs)
      have HK := Lib.hid hk
      have hjl : ¬ (j : Int) < (ss.length : Int) := by omega
      clear hk
      go_wp2
      go_ret
      exact ⟨none, 0, by rw [HK.out]; rfl, by rw [HK.out]; exact Nat.zero_le _, ⟨.inl (by rw [HK.out]; rfl)⟩, HBE.out, fun _ => ⟨by rw [HK.out]; rfl, rfl⟩⟩

theorem find45 (a : Option Addr) (cap : Nat) (ss : List ByteArray) (w : World) (h : Str w a ss) (hn : ss.length ≤ 50) (hz : ∀ s ∈ ss, s.size ≤ 200) (ha : ∀ s ∈ ss, ∀ (q : Nat) (b : UInt8), s.data.toList[q]? = some b → b.toNat < 128) (hcap : ss.length ≤ cap) :
    Calls Tryd.prog 45 #[.slice a ss.length cap] w (KeysOut w (keysOf ss)) := by
  have HS := Lib.hid h
  have HZ := Lib.hid hz
  have HA := Lib.hid ha
  clear h hz ha
  go_enter Tryd.func45, Tryd.ntmps45
  go_wp2_with fail
  go_loopw [8] (fun i wr => ∃ j : Nat, j ≤ ss.length ∧ i = .int .i64 j ∧ Hid (∀ (q : Nat) (s : ByteArray), q < j → ss[q]? = some s → (up s).toList ≠ word) ∧ Below w.heap.size w wr) (fun i _ => ss.length - (intOf i).toNat)
  case atStart => exact ⟨0, Nat.zero_le _, rfl, Lib.hid (fun q s hq => by omega), Below.refl _ _⟩
  case round =>
    obtain ⟨j, hj, rfl, hall, hbe⟩ := hrel
    have HBE := Lib.hid hbe
    clear hbe
    by_cases hlt : j < ss.length
    · obtain ⟨A, off, rfl, hc0⟩ := HS.out.get hlt
      have hc := (HBE.out.cell (p := ⟨A, off + j, none⟩) (block_lt_of_cell hc0)).trans hc0
      have hzz := HZ.out _ (List.getElem_mem hlt)
      have hu := Tryd.strings_ToUpper_ascii (ss[j]'hlt) wr (by omega) (fun q b hq => HA.out _ (List.getElem_mem hlt) q b hq)
      have hup : (⟨(Lib.toUpperA (ss[j]'hlt).data.toList).toArray⟩ : ByteArray) = up (ss[j]'hlt) := rfl
      rw [hup] at hu
      have HU := Lib.hid hu
      have HAT := Lib.hid (fun hw => keysOf_at ss j hall.out hlt hw)
      have HG := Lib.hid (List.getElem?_eq_getElem hlt)
      clear hu hc0 hup
      generalize ss[j]'hlt = x at *
      have hjl : (j : Int) < (ss.length : Int) := by omega
      by_cases hw : (up x).toList = word
      · have hb : ((up x).toList == [83, 84, 82, 69, 65, 77, 83]) = true := by rw [hw]; rfl
        have hks := HAT.out hw
        have hq : Int.tdiv ((ss.length - (j + 1) : Nat) : Int) 2 = (((ss.length - (j + 1)) / 2 : Nat) : Int) := by rw [Int.tdiv_eq_ediv_of_nonneg (by omega)]; omega
        have hkl : (keysOf ss).length = (ss.length - (j + 1) + 1) / 2 := by rw [hks]; simp; omega
        have hmm : (ss.length - (j + 1) + 1) / 2 = ss.length - (ss.length - (j + 1)) / 2 - (j + 1) := by omega
        rw [hmm] at hks hkl
        have hml : (ss.length - (j + 1)) / 2 ≤ ss.length - (j + 1) := by omega
        have hm0 : ss.length = j + 1 → (ss.length - (j + 1)) / 2 = 0 := by omega
        generalize (ss.length - (j + 1)) / 2 = m at *
        have HKS := Lib.hid hks
        have HKL := Lib.hid hkl
        generalize up x = u at *
        clear HAT hks hkl hw hmm
        go_wp2_with fail
        refine HU.out.mono ?_
        rintro e w1 ⟨rfl, hb1⟩
        have HB1 := Lib.hid hb1
        clear hb1
        have hs1 : Str w1 (some ⟨A, off, none⟩) ss := HS.out.but (HBE.out.trans (HB1.out.mono HBE.out.size))
        have HS1 := Lib.hid hs1
        clear hs1
        go_wp2
        case inl =>
          go_ret
          exact ⟨_, 0, by rw [HKL.out]; rfl, by rw [HKL.out]; omega, ⟨.inl (by rw [HKL.out]; omega)⟩, HBE.out.trans (HB1.out.mono HBE.out.size), fun h => by cases h⟩
        case inr =>
          go_ret
          exact ⟨_, cap - (j + 1), by rw [HKL.out]; rfl, by rw [HKL.out]; omega, by rw [HKS.out]; exact Str.part' HS1.out _ _, HBE.out.trans (HB1.out.mono HBE.out.size), fun h => by cases h⟩
      · have hb : ((up x).toList == [83, 84, 82, 69, 65, 77, 83]) = false := beq_eq_false_iff_ne.2 hw
        have HN := Lib.hid (ahead_step hall.out HG.out hw)
        generalize up x = u at *
        clear HAT hw
        go_wp2_with fail
        refine HU.out.mono ?_
        rintro e w1 ⟨rfl, hb1⟩
        have HB1 := Lib.hid hb1
        clear hb1
        go_wp2
        go_roundw
        case rel => exact ⟨j + 1, by omega, by go_num, HN, HBE.out.trans (HB1.out.mono HBE.out.size)⟩
        case measure => simp [intOf]; omega
    · have hk : keysOf ss = [] := keysOf_none ss (fun q s hs => hall.out q s (by have := (List.getElem?_eq_some_iff.1 hs).1; omega) hs)
      have HK := Lib.hid hk
      have hjl : ¬ (j : Int) < (ss.length : Int) := by omega
      clear hk
      go_wp2
      go_ret
      exact ⟨none, 0, by rw [HK.out]; rfl, by rw [HK.out]; exact Nat.zero_le _, ⟨.inl (by rw [HK.out]; rfl)⟩, HBE.out, fun _ => ⟨by rw [HK.out]; rfl, rfl⟩⟩
theorem door30 (a : Option Addr) (cap : Nat) (ss : List ByteArray) (w : World) (h : Str w a ss) (hn : ss.length ≤ 50) (hz : ∀ s ∈ ss, s.size ≤ 200) (ha : ∀ s ∈ ss, ∀ (q : Nat) (b : UInt8), s.data.toList[q]? = some b → b.toNat < 128) (hcap : ss.length ≤ cap) :
    Calls Tryd.prog 30 #[.slice a ss.length cap] w (KeysOut w (keysOf ss)) := by
  have HF := Lib.hid (find45 a cap ss w h hn hz ha hcap)
  clear h hz ha
  go_enter Tryd.func30, Tryd.ntmps30
  go_wp2_with fail
  refine HF.out.mono ?_
  rintro e w1 ⟨a', c', rfl, hc, hs, hb, hno⟩
  have HS := Lib.hid hs
  have HB := Lib.hid hb
  clear hs hb
  go_wp2
  go_ret
  exact ⟨a', c', rfl, hc, HS.out, HB.out, hno⟩

theorem same20 (a b : Option Addr) (ca cb : Nat) (ss : List ByteArray) (w : World) (ha : Str w a ss) (hb : Str w b ss) (hn : ss.length ≤ 1000) :
    Calls Tryd.prog 20 #[.slice a ss.length ca, .slice b ss.length cb] w fun e w' => e = .returned (.bool true) ∧ w = w' := by
  have HA := Lib.hid ha
  have HB := Lib.hid hb
  clear ha hb
  go_enter Tryd.func20, Tryd.ntmps20
  go_wp2_with fail
  go_loop [14] (fun i => ∃ j : Nat, j ≤ ss.length ∧ i = .int .i64 j) (fun i => ss.length - (intOf i).toNat)
  case atStart => exact ⟨0, Nat.zero_le _, rfl⟩
  case round =>
    obtain ⟨j, hj, rfl⟩ := hrel
    by_cases hlt : j < ss.length
    · obtain ⟨A, off, rfl, hc⟩ := HA.out.get hlt
      obtain ⟨B, off2, rfl, hd⟩ := HB.out.get hlt
      generalize ss[j]'hlt = x at *
      have hjl : (j : Int) < (ss.length : Int) := by omega
      go_wp2
      go_round
      case rel => exact ⟨j + 1, by omega, by go_num⟩
      case measure => simp [intOf]; omega
    · have hjl : ¬ (j : Int) < (ss.length : Int) := by omega
      go_wp2
      go_ret
      exact ⟨rfl, rfl⟩

theorem info_str : (Tryd.prog.info? 9).map (fun i => (i.zero, i.size, i.bytes)) = some (some (.string ByteArray.empty), 1, 16) := by kernel_rfl
/-- append([]string{}, ss...). -/
theorem app_strs {w : World} (g : Nat) (hg : w.heap[g]? = some (.cells #[] 9 (0, 0))) (a : Option Addr) (c : Nat) (ss : List ByteArray) (h : Str w a ss) (hn : ss.length ≤ 50) (hnone : a = none → ss.length = 0 ∧ c = 0) (ty : TypeId) :
    ∃ a' c' w', (Builtin.append_ #[37, 37] ty #[.slice (some ⟨g, 0, none⟩) 0 0, .slice a ss.length c]).run Tryd.prog w = .ok (.slice a' ss.length c') w' ∧ ss.length ≤ c' ∧ Str w' a' ss ∧ But [g] w w' ∧ ∀ A off, a' = some ⟨A, off, none⟩ → g ≤ A := by
  obtain ⟨i, hi, hz, hz1, hz2⟩ := info_parts info_str
  have hlt := (Array.getElem?_eq_some_iff.1 hg).1
  cases a with
  | none =>
    obtain ⟨h0, rfl⟩ := hnone rfl
    refine ⟨some ⟨g, 0, none⟩, 0, w, ?_, by omega, ⟨.inl h0⟩, But.refl _ _, fun A off e => by cases e; exact Nat.le_refl _⟩
    rw [h0]
    have hf := run_firstCells_none (P := Tryd.prog) w 1
    simp [Builtin.append_, run_underlying Tryd.underlying37, sizeOf, typeInfo, hi, hz1, Builtin.lenOf]
    rw [hf]
    rfl
  | some ad =>
    have hown : w.ownsRow g 9 1 (.slice (some ⟨g, 0, none⟩) 0 0) 0 [] := ⟨rfl, .inr ⟨g, 0, #[], rfl, Nat.le_refl _, hg, Nat.le_refl _, by unfold maxLen; omega, rfl, rfl⟩⟩
    have hnews : ∀ j u, (ss.map Value.string)[j]? = some u → w.cell? (ad.add j) = some u := by
      intro j u hu
      simp only [List.getElem?_map, Option.map_eq_some_iff] at hu
      obtain ⟨s, hs, rfl⟩ := hu
      rcases h.at_ with h0 | ⟨A, off, e, hc⟩
      · rw [List.getElem?_eq_none (by omega)] at hs
        cases hs
      · cases e
        rw [Addr.add_lit]
        exact hc j s hs
    obtain ⟨v', w', hr, hown', hgr, _, _⟩ := run_append_own_at (P := Tryd.prog) w g 37 ty 9 i (.string ByteArray.empty) 1 16 Tryd.underlying37 hi hz hz1 hz2 rfl (by omega) _ 0 [] hown ad ss.length c (ss.map Value.string) (by simp) hnews (fun u hu => by
      obtain ⟨s, _, rfl⟩ := List.mem_map.1 hu
      rfl) (by unfold maxLen; omega) (by omega) (by omega)
    have hbut : But [g] w w' := (But.refl [g] w).grown hgr (fun k hk => by simp [Value.ownBlock] at hk; exact Or.inl (by simp [hk]))
    rw [Nat.zero_add, List.nil_append] at hown'
    rcases hown'.2 with ⟨rfl, h0⟩ | ⟨g', cap', cur, rfl, hb, hgg, hle, hm, hcs, htk⟩
    · exact ⟨none, 0, w', by rw [hr, h0], by omega, ⟨.inl h0⟩, hbut, fun A off e => by cases e⟩
    · refine ⟨_, cap', w', hr, hle, ⟨.inr ⟨g', 0, rfl, fun j s hs => ?_⟩⟩, hbut, fun A off e => by cases e; exact hb⟩
      have hj := (List.getElem?_eq_some_iff.1 hs).1
      rw [Nat.zero_add, cell_of_row _ _ j _ _ _ hgg]
      rw [Nat.mul_one] at htk
      have : cur[j]? = (ss.map Value.string)[j]? := by rw [← htk]; simp [hj]
      rw [this, List.getElem?_map, hs]
      rfl

theorem catch29 (p q : Addr) (w : World) :
    CallsD Tryd.prog 29 #[.pointer (some p), .pointer (some q)] .returning w fun e u' w' => e = .returned (.tuple #[]) ∧ u' = .returning ∧ w = w' := by
  refine callsD_of_wpS Tryd.func29 rfl fun c₀ cs hu => ?_
  apply wpS_seq
  apply wpS_region
  simp [wpOpsS, go_sem, recoverD, hu, Tryd.ntmps29, Exit.thenS]
  refine wpS_cond (t := false) (by simp [Act.eval, Array.replicate]) ?_
  simp only [Bool.false_eq_true, if_false]
  refine wpS_of_wp (wp_skip ?_)
  cases c₀
  simp_all [bodyPostS, results, Tryd.results29]

set_option maxHeartbeats 4000000 in
theorem impl19 (a : Option Addr) (cap : Nat) (ss : List ByteArray) (w : World) (h : Str w a ss) (hn : ss.length ≤ 50) (hz : ∀ s ∈ ss, s.size ≤ 200) (ha : ∀ s ∈ ss, ∀ (q : Nat) (b : UInt8), s.data.toList[q]? = some b → b.toNat < 128) (hcap : ss.length ≤ cap) (hnone : a = none → ss.length = 0 ∧ cap = 0) :
    Calls Tryd.prog 19 #[.slice a ss.length cap] w fun e w' => ∃ a' c', e = .returned (.tuple #[.slice a' (keysOf ss).length c', .bool true]) ∧ Str w' a' (keysOf ss) ∧ Below w.heap.size w w' := by
  have hmf : ∀ (fn : Fn) (first cap : Array Value) (w : World), (Instr.makeFunc fn first cap).run Tryd.prog w = .ok (.func fn first cap) w := fun _ _ _ _ => rfl
  obtain ⟨W4, hW4⟩ : ∃ W4, (((w.alloc (.cells #[.slice none 0 0] 37)).alloc (.cells #[.bool false] 4)).alloc (.cells #[] 9)).alloc (.cells #[] 9) = W4 := ⟨_, rfl⟩
  have b4 : But [] w W4 := hW4 ▸ ((((But.refl [] w).alloc _).alloc _).alloc _).alloc _
  have s4 : W4.heap.size = w.heap.size + 1 + 1 + 1 + 1 := by rw [← hW4]; simp
  have h0 : W4.heap[w.heap.size]? = some (.cells #[.slice none 0 0] 37 (0, 0)) := hW4 ▸ ((((But.refl [] _).alloc _).alloc _).alloc _).heapAt (heap_alloc_new w _) (by simp)
  have h1 : W4.heap[w.heap.size + 1]? = some (.cells #[.bool false] 4 (0, 0)) := by
    have h := heap_alloc_new (w.alloc (.cells #[.slice none 0 0] 37)) (.cells #[.bool false] 4)
    have e : (w.alloc (.cells #[.slice none 0 0] 37)).heap.size = w.heap.size + 1 := by simp
    rw [e] at h
    rw [← hW4]
    exact (((But.refl [] _).alloc _).alloc _).heapAt h (by simp)
  have h5 : W4.heap[w.heap.size + 1 + 1]? = some (.cells #[] 9 (0, 0)) := by
    have h := heap_alloc_new ((w.alloc (.cells #[.slice none 0 0] 37)).alloc (.cells #[.bool false] 4)) (.cells #[] 9)
    have e : ((w.alloc (.cells #[.slice none 0 0] 37)).alloc (.cells #[.bool false] 4)).heap.size = w.heap.size + 1 + 1 := by simp
    rw [e] at h
    rw [← hW4]
    exact ((But.refl [] _).alloc _).heapAt h (by simp)
  have h6 : W4.heap[w.heap.size + 1 + 1 + 1]? = some (.cells #[] 9 (0, 0)) := by
    have h := heap_alloc_new (((w.alloc (.cells #[.slice none 0 0] 37)).alloc (.cells #[.bool false] 4)).alloc (.cells #[] 9)) (.cells #[] 9)
    have e : (((w.alloc (.cells #[.slice none 0 0] 37)).alloc (.cells #[.bool false] 4)).alloc (.cells #[] 9)).heap.size = w.heap.size + 1 + 1 + 1 := by simp
    rw [e] at h
    rw [← hW4]
    exact h
  obtain ⟨a1, c1, W5, hr1, hc1, hs1, hb1, _⟩ := app_strs (w.heap.size + 1 + 1 + 1) h6 a cap ss (h.but b4.toBelow) hn hnone 37
  have g0 := hb1.heapAt h0 (by simp; omega)
  have g1 := hb1.heapAt h1 (by simp)
  have g5 := hb1.heapAt h5 (by simp)
  have hcall := door30 a1 c1 ss W5 hs1 hn hz ha hc1
  have b5 : But [] w W5 := b4.join hb1 (fun x hx => by cases hx) (fun x hx hlt => by simp at hx; omega)
  have z5 : w.heap.size + 1 + 1 + 1 + 1 ≤ W5.heap.size := by rw [← s4]; exact hb1.size
  have hkl : (keysOf ss).length ≤ ss.length := by
    clear hr1 hcall hs1 hz ha h hnone hc1 hcap
    induction ss with
    | nil => exact Nat.le_refl _
    | cons s r ih =>
      unfold keysOf
      split
      · simp; omega
      · have := ih (by simp at hn; omega)
        simp; omega
  have HR1 := Lib.hid hr1
  have HC := Lib.hid hcall
  have G0 := Lib.hid g0
  have G1 := Lib.hid g1
  have G5 := Lib.hid g5
  have B5 := Lib.hid b5
  have S4 := Lib.hid s4
  clear h hz ha h0 h1 h5 h6 hr1 hcall g0 g1 g5 b4 b5 hb1 hs1 hnone hc1 s4
  generalize keysOf ss = ks at *
  go_enter_defers Tryd.func19, Tryd.ntmps19
  go_wp2_with (first
    | (at_builtin; first
      | (refine app_step rfl _ _ _ _ rfl _ _ _ rfl rfl HR2.out ?_)
      | (refine app_step rfl _ _ _ _ rfl _ _ _ rfl rfl HR1.out ?_))
    | (go_at_call 30
       refine HC.out.mono ?_
       rintro e W6 ⟨a2, c2, rfl, hc2, hs2, hb2, hno2⟩
       have z6 := hb2.size
       have g0 := (hb2.block w.heap.size (by omega)).trans G0.out
       have g1 := (hb2.block (w.heap.size + 1) (by omega)).trans G1.out
       have g5 := (hb2.block (w.heap.size + 1 + 1) (by omega)).trans G5.out
       obtain ⟨a3, c3, W7, hr2, hc3, hs3, hb3, hge3⟩ := app_strs (w.heap.size + 1 + 1) g5 a2 c2 ks hs2 (by omega) hno2 37
       have k0 : W7.cell? ⟨w.heap.size, 0, none⟩ = some (.slice none 0 0) := cell_of_row _ _ 0 _ _ _ (hb3.heapAt g0 (by simp; omega))
       have k1 : W7.cell? ⟨w.heap.size + 1, 0, none⟩ = some (.bool false) := cell_of_row _ _ 0 _ _ _ (hb3.heapAt g1 (by simp))
       have f0 : W7.frozen? ⟨w.heap.size, 0, none⟩ = false := frozen_of_row _ _ 0 _ _ (hb3.heapAt g0 (by simp; omega))
       have f1 : W7.frozen? ⟨w.heap.size + 1, 0, none⟩ = false := frozen_of_row _ _ 0 _ _ (hb3.heapAt g1 (by simp))
       have HR2 := Lib.hid hr2
       have HS3 := Lib.hid hs3
       have B7 := Lib.hid (((B5.out.trans (But.ofBelow hb2)).join hb3 (U := []) (fun x hx => by cases hx) (fun x hx hlt => by simp at hx; omega)))
       clear hr2 hs2 hs3 hb2 hb3 g0 g1 g5 hc2 hc3))
  refine leaves_cons (f := 29) (args := #[.pointer (some ⟨w.heap.size, 0, none⟩), .pointer (some ⟨w.heap.size + 1, 0, none⟩)]) (by simp) (by simp [go_sem]) ?_
  refine (catch29 _ _ _).mono ?_
  rintro e u' w'' ⟨rfl, rfl, rfl⟩
  have q0 : (W7.setCell ⟨w.heap.size, 0, none⟩ (.slice a3 ks.length c3)).cell? ⟨w.heap.size, 0, none⟩ = some (.slice a3 ks.length c3) := World.cell?_setCell_same _ _ _ k0
  have q1 : ((W7.setCell ⟨w.heap.size, 0, none⟩ (.slice a3 ks.length c3)).setCell ⟨w.heap.size + 1, 0, none⟩ (.bool true)).cell? ⟨w.heap.size + 1, 0, none⟩ = some (.bool true) :=
    World.cell?_setCell_same _ _ _ ((World.cell?_setCell_other _ _ _ _ (by simp)).trans k1)
  simp [Leaves, settle, results, Tryd.results19, go_sem, q0, q1]
  refine ⟨?_, (B7.out.toBelow.setCell (Nat.le_refl _) _).setCell (by simp) _⟩
  rcases HS3.out.at_ with e0 | ⟨A, off, rfl, hc⟩
  · exact ⟨.inl e0⟩
  · refine ⟨.inr ⟨A, off, rfl, fun j s hs => ?_⟩⟩
    have hx := hc j s hs
    have hge := hge3 A off rfl
    have n0 : ¬ w.heap.size + 1 = A := by omega
    have n1 : ¬ w.heap.size = A := by omega
    rw [World.cell?_setCell_other _ _ _ _ (by simp), World.cell?_setCell_other _ _ _ _ (by simp)]
    exact hx
end Go.Proofs.YtkibdomfiodilaaDoor.strs
