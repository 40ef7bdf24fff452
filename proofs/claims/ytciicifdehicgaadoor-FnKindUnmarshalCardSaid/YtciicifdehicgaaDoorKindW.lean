/-
  Proved: the contracts of ValueKind.UnmarshalText, impl.KindUnmarshal and laws.lNames, where the table of the kinds' names lies in memory.
  Conditions: the table's cells hold the six names.
-/
import Derived.Test.YtciicifdehicgaaDoorMem
import Derived.Outline
import Derived.WalkLawsBesides
import Derived.WalkSpells
import Derived.Lib.Hide
import Derived.Laws.BytesArg
import Derived.Defers
import Derived.Recover
import Derived.RegionTactic
import Derived.ChangeAlike
import Derived.Deep.RegionHeld3
namespace Go.Proofs.YtciicifdehicgaaDoor.kind
open Go.RowKit Mem
set_option linter.unusedVariables false

/-- The kinds' names. -/
def nm : Nat → ByteArray
  | 0 => ⟨#[117, 110, 107, 110, 111, 119, 110]⟩
  | 1 => ⟨#[115, 116, 114, 105, 110, 103]⟩
  | 2 => ⟨#[105, 110, 116]⟩
  | 3 => ⟨#[117, 105, 110, 116]⟩
  | 4 => ⟨#[102, 108, 111, 97, 116]⟩
  | _ => ⟨#[98, 111, 111, 108]⟩
/-- The number of the kind that has a name, but of the first; 0 for other texts. -/
def kindOf (s : ByteArray) : Nat := if s = nm 1 then 1 else if s = nm 2 then 2 else if s = nm 3 then 3 else if s = nm 4 then 4 else if s = nm 5 then 5 else 0
theorem kindOf_le (s : ByteArray) : kindOf s ≤ 5 := by unfold kindOf; split <;> (try omega); split <;> (try omega); split <;> (try omega); split <;> (try omega); split <;> omega
theorem kindOf_iff (s : ByteArray) (k : Nat) (h1 : 1 ≤ k) (h5 : k ≤ 5) : s = nm k ↔ kindOf s = k := by
  have c1 : kindOf (nm 1) = 1 := by decide +kernel
  have c2 : kindOf (nm 2) = 2 := by decide +kernel
  have c3 : kindOf (nm 3) = 3 := by decide +kernel
  have c4 : kindOf (nm 4) = 4 := by decide +kernel
  have c5 : kindOf (nm 5) = 5 := by decide +kernel
  constructor
  · intro h
    subst h
    obtain rfl | rfl | rfl | rfl | rfl : k = 1 ∨ k = 2 ∨ k = 3 ∨ k = 4 ∨ k = 5 := by omega
    all_goals assumption
  · intro h
    unfold kindOf at h
    by_cases e1 : s = nm 1
    · rw [if_pos e1] at h; subst h; exact e1
    rw [if_neg e1] at h
    by_cases e2 : s = nm 2
    · rw [if_pos e2] at h; subst h; exact e2
    rw [if_neg e2] at h
    by_cases e3 : s = nm 3
    · rw [if_pos e3] at h; subst h; exact e3
    rw [if_neg e3] at h
    by_cases e4 : s = nm 4
    · rw [if_pos e4] at h; subst h; exact e4
    rw [if_neg e4] at h
    by_cases e5 : s = nm 5
    · rw [if_pos e5] at h; subst h; exact e5
    rw [if_neg e5] at h
    omega

/-- The table lies there. -/
def Table (w : World) : Prop := ∃ b off cap, w.cell? ⟨0, 0, none⟩ = some (.slice (some ⟨b, off, none⟩) 6 cap) ∧ ∀ j, j < 6 → w.cell? ⟨b, off + j, none⟩ = some (.string (nm j))
theorem Table.but {S : List Nat} {w w' : World} (h : Table w) (hb : But S w w') (hs : ∀ k, k ∈ S → w.heap.size ≤ k) : Table w' := by
  obtain ⟨b, off, cap, h0, hj⟩ := h
  have out : ∀ {p v}, w.cell? p = some v → p.block ∉ S := fun h e => by
    have := block_lt_of_cell h
    have := hs _ e
    omega
  exact ⟨b, off, cap, hb.cellAt h0 (out h0), fun j hj' => hb.cellAt (hj j hj') (out (hj j hj'))⟩

/-- What UnmarshalText leaves: the kind's number in the variable and no error, or an error and the variable as it was. -/
def Unm (w : World) (K m : Nat) (e : Ending) (w' : World) : Prop :=
  But [K] w w' ∧ w'.cell? ⟨K, 0, none⟩ = some (.int .u8 m) ∧ w'.frozen? ⟨K, 0, none⟩ = false ∧ ((0 < m ∧ e = .returned .nilIface) ∨ (m = 0 ∧ ∃ a, e = .returned (.iface 34 (.pointer (some a)))))

theorem unm7 (K g cap : Nat) (s : ByteArray) (w : World) (ht : Table w) (hs : s.size ≤ 100) (hk : w.cell? ⟨K, 0, none⟩ = some (.int .u8 0)) (hf : w.frozen? ⟨K, 0, none⟩ = false)
    (hc : ∀ j, j < s.size → w.cell? ⟨g, j, none⟩ = some (.int .u8 ((s.data.toList.getD j 0).toNat : Int))) :
    Calls Tryd.prog 7 #[.pointer (some ⟨K, 0, none⟩), .slice (some ⟨g, 0, none⟩) s.size cap] w (Unm w K (kindOf s)) := by
  have hcv := conv_str w 31 5 9 Tryd.underlying31 Tryd.underlying5 Tryd.underlying9 g 0 cap s (fun j hj => by rw [Nat.zero_add]; exact hc j hj)
  obtain ⟨b, off, tcap, h0, hj⟩ := ht
  have HJ := Lib.hid hj
  clear hc hj
  go_enter Tryd.func7, Tryd.ntmps7
  go_wp2_with fail
  go_loop [12] (fun i => ∃ k : Nat, k ≤ 6 ∧ i = .int .i64 k ∧ ∀ j, 1 ≤ j → j < k → kindOf s ≠ j) (fun i => 6 - (intOf i).toNat)
  case atStart => exact ⟨0, by omega, rfl, fun j _ hj => by omega⟩
  case round =>
    obtain ⟨k, hk6, rfl, hall⟩ := hrel
    by_cases hlt : k < 6
    · have hck := HJ.out k hlt
      by_cases h0 : k = 0
      · subst h0
        rw [Nat.add_zero] at hck
        generalize nm 0 = nk at *
        go_wp2_with fail
        go_round
        case rel => exact ⟨1, by omega, by go_num, fun j h1 hj => by omega⟩
        case measure => simp [intOf]
      · have hp : (0 : Int) < (k : Int) := by omega
        have hiff := kindOf_iff s k (by omega) (by omega)
        by_cases hm : kindOf s = k
        · have heq := hiff.2 hm
          have hb : ((nm k).toList == s.toList) = true := by rw [heq]; simp
          have HM := Lib.hid hm
          clear hall hiff hm heq
          generalize nm k = nk at *
          go_wp2
          go_ret
          refine ⟨(But.refl _ _).setCell (Or.inl (by simp)) _, ?_, by simpa using hf, Or.inl ⟨by have := HM.out; omega, rfl⟩⟩
          rw [HM.out]
          exact World.cell?_setCell_same _ _ _ hk
        · have hne : ¬ s = nm k := fun e => hm (hiff.1 e)
          have hb : ((nm k).toList == s.toList) = false := by
            rw [beq_eq_false_iff_ne]
            intro e
            apply hne
            exact (ByteArray.ext (by
              have h1 : (nm k).data.toList = s.data.toList := by simpa [ByteArray.toList_eq] using e
              exact Array.toList_inj.1 h1)).symm
          have HALL : Hid (∀ j, 1 ≤ j → j < k + 1 → kindOf s ≠ j) := fun j h1 hj => by
            by_cases e : j = k
            · subst e; exact hm
            · exact hall j h1 (by omega)
          clear hall hiff hm hne
          generalize nm k = nk at *
          go_wp2
          go_round
          case rel => exact ⟨k + 1, by omega, by go_num, HALL.out⟩
          case measure => simp [intOf]; omega
    · have h0 : kindOf s = 0 := by
        have := kindOf_le s
        by_cases e : kindOf s = 0
        · exact e
        · exact absurd rfl (hall (kindOf s) (by omega) (by omega))
      have H0 := Lib.hid h0
      clear hall h0
      go_wp2
      go_ret
      refine ⟨(But.refl _ _).alloc _, ?_, ?_, Or.inr ⟨H0.out, _, rfl⟩⟩
      · rw [H0.out]
        exact ((But.refl [] w).alloc _).cellAt hk (by simp)
      · exact (((But.refl [] w).alloc _).frozen (p := ⟨K, 0, none⟩) (block_lt_of_cell hk) (by simp)).trans hf

theorem catch6 (p q : Addr) (w : World) :
    CallsD Tryd.prog 6 #[.pointer (some p), .pointer (some q)] .returning w fun e u' w' => e = .returned (.tuple #[]) ∧ u' = .returning ∧ w = w' := by
  refine callsD_of_wpS Tryd.func6 rfl fun c₀ cs hu => ?_
  apply wpS_seq
  apply wpS_region
  simp [wpOpsS, go_sem, recoverD, hu, Tryd.ntmps6, Exit.thenS]
  refine wpS_cond (t := false) (by simp [Act.eval, Array.replicate]) ?_
  simp only [Bool.false_eq_true, if_false]
  refine wpS_of_wp (wp_skip ?_)
  cases c₀
  simp_all [bodyPostS, results, Tryd.results6]

/-- What impl.KindUnmarshal leaves. -/
def Known (w : World) (m : Nat) (e : Ending) (w' : World) : Prop := e = .returned (.tuple #[.int .i64 m, .bool (decide (0 < m))]) ∧ But [] w w'

theorem three (w : World) (A B C : Obj) : (((w.alloc A).alloc B).alloc C).heap[w.heap.size]? = some A ∧ (((w.alloc A).alloc B).alloc C).heap[w.heap.size + 1]? = some B ∧ (((w.alloc A).alloc B).alloc C).heap[w.heap.size + 1 + 1]? = some C ∧ (((w.alloc A).alloc B).alloc C).heap.size = w.heap.size + 1 + 1 + 1 ∧ But [] w (((w.alloc A).alloc B).alloc C) := by
  have b1 : But [] (w.alloc A) (((w.alloc A).alloc B).alloc C) := ((But.refl _ _).alloc _).alloc _
  have b2 : But [] ((w.alloc A).alloc B) (((w.alloc A).alloc B).alloc C) := (But.refl _ _).alloc _
  refine ⟨b1.heapAt (heap_alloc_new _ _) (by simp), b2.heapAt ?_ (by simp), ?_, by simp, (((But.refl _ _).alloc _).alloc _).alloc _⟩
  · have := heap_alloc_new (w.alloc A) B
    simpa using this
  · have := heap_alloc_new ((w.alloc A).alloc B) C
    simpa using this

theorem ends {w w' : World} (h : But [w.heap.size + 1 + 1] w w') (u v : Value) : But [] w ((((w'.setCell ⟨w.heap.size, 0, none⟩ u).setCell ⟨w.heap.size + 1, 0, none⟩ v)).drew) :=
  ((((But.refl [] w).join h (by simp) (fun x e hx => by simp at e; omega)).setCell (Or.inr (by simp)) _).setCell (Or.inr (by simp)) _).drew

theorem impl5 (s : ByteArray) (w : World) (ht : Table w) (hs : s.size ≤ 100) : Calls Tryd.prog 5 #[.string s] w (Known w (kindOf s)) := by
  have hmf : ∀ (fn : Fn) (first cap : Array Value) (w : World), (Instr.makeFunc fn first cap).run Tryd.prog w = .ok (.func fn first cap) w := fun _ _ _ _ => rfl
  have hcv := fun W => Lib.run_convert_string_bytes (P := Tryd.prog) W 9 31 5 s Tryd.underlying9 Tryd.underlying31 Tryd.underlying5
  obtain ⟨hA, hB, hC, hS, hb3⟩ := three w (.cells #[.int .i64 0] 3) (.cells #[.bool false] 4) (.cells #[.int .u8 0] 27)
  have HT := Lib.hid ht
  have HALL := Lib.hid (And.intro hA (And.intro hB (And.intro hC (And.intro hS hb3))))
  clear ht hA hB hC hS hb3
  go_enter_defers Tryd.func5, Tryd.ntmps5
  go_wp2_with fail
  obtain ⟨hA, hB, hC, hS, hb3⟩ := HALL.out
  clear HALL
  generalize (((w.alloc (Obj.cells #[Value.int IntKind.i64 0] 3)).alloc (Obj.cells #[Value.bool false] 4)).alloc (Obj.cells #[Value.int IntKind.u8 0] 27)) = W3 at *
  have hby := bytes_but [] W3 5 s
  have hC4 := hby.heapAt hC (by simp)
  refine (unm7 _ _ _ s _ ((HT.out.but hb3 (by simp)).but hby (by simp)) hs (cell_of_row _ _ 0 _ _ _ hC4) (frozen_of_row _ _ 0 _ _ hC4) (fun j hj => by rw [← hS]; exact Lib.bytesWorld_cell W3 5 s j hj)).mono ?_
  rintro e w' ⟨hbk, hkc, hkf, hres⟩
  have hbt := (hb3.mono (T := [w.heap.size + 1 + 1]) (by simp)).trans ((hby.mono (by simp)).trans hbk)
  have hA' := hbk.heapAt (hby.heapAt hA (by simp)) (by simp; omega)
  have hB' := hbk.heapAt (hby.heapAt hB (by simp)) (by simp)
  have a1 := cell_of_row _ _ 0 _ _ _ hA'
  have a2 := frozen_of_row _ _ 0 _ _ hA'
  have b1 := cell_of_row _ _ 0 _ _ _ hB'
  have b2 := frozen_of_row _ _ 0 _ _ hB'
  simp at a1 b1
  have hm5 := kindOf_le s
  have HBT := Lib.hid hbt
  clear hbt hA' hB' hbk hA hB hC hC4 hby hb3 hcv hS
  generalize kindOf s = m at *
  rcases hres with ⟨hm, rfl⟩ | ⟨rfl, a, rfl⟩
  · have HM := Lib.hid hm
    clear hm
    go_wp2_with fail
    refine wp_region_noPanic ?_
    go_region
    refine NoPanic.normal ?_
    go_wp2
    refine leaves_cons (f := 6) (args := #[.pointer (some ⟨w.heap.size, 0, none⟩), .pointer (some ⟨w.heap.size + 1, 0, none⟩)]) (by simp) (by simp [go_sem]) ?_
    refine (catch6 _ _ _).mono ?_
    rintro e u' w'' ⟨rfl, rfl, rfl⟩
    have q0 : (w'.setCell ⟨w.heap.size, 0, none⟩ (.int .i64 m)).cell? ⟨w.heap.size, 0, none⟩ = some (.int .i64 m) := World.cell?_setCell_same _ _ _ a1
    have q1 : ((w'.setCell ⟨w.heap.size, 0, none⟩ (.int .i64 m)).setCell ⟨w.heap.size + 1, 0, none⟩ (.bool true)).cell? ⟨w.heap.size + 1, 0, none⟩ = some (.bool true) :=
      World.cell?_setCell_same _ _ _ ((World.cell?_setCell_other _ _ _ _ (by simp)).trans b1)
    simp [Leaves, settle, results, Tryd.results5, go_sem, q0, q1]
    exact ⟨by have := HM.out; simp [this], ends HBT.out _ _⟩
  · skip
    go_wp2_with fail
    refine wp_region_noPanic ?_
    go_region
    refine NoPanic.normal ?_
    go_wp2
    refine leaves_cons (f := 6) (args := #[.pointer (some ⟨w.heap.size, 0, none⟩), .pointer (some ⟨w.heap.size + 1, 0, none⟩)]) (by simp) (by simp [go_sem]) ?_
    refine (catch6 _ _ _).mono ?_
    rintro e u' w'' ⟨rfl, rfl, rfl⟩
    have q0 : (w'.setCell ⟨w.heap.size, 0, none⟩ (.int .i64 0)).cell? ⟨w.heap.size, 0, none⟩ = some (.int .i64 0) := World.cell?_setCell_same _ _ _ a1
    have q1 : ((w'.setCell ⟨w.heap.size, 0, none⟩ (.int .i64 0)).setCell ⟨w.heap.size + 1, 0, none⟩ (.bool false)).cell? ⟨w.heap.size + 1, 0, none⟩ = some (.bool false) :=
      World.cell?_setCell_same _ _ _ ((World.cell?_setCell_other _ _ _ _ (by simp)).trans b1)
    simp [Leaves, settle, results, Tryd.results5, go_sem, q0, q1]
    exact ⟨rfl, ends HBT.out _ _⟩

theorem lN4_1 (w : World) : Calls Tryd.prog 4 #[.int .i64 1] w fun e w' => e = .returned (.string (nm 1)) ∧ But [] w w' := by
  go_enter Tryd.func4, Tryd.ntmps4
  go_wp2
  go_ret
  exact ⟨rfl, (But.refl _ _).alloc _⟩
theorem lN4_2 (w : World) : Calls Tryd.prog 4 #[.int .i64 2] w fun e w' => e = .returned (.string (nm 2)) ∧ But [] w w' := by
  go_enter Tryd.func4, Tryd.ntmps4
  go_wp2
  go_ret
  exact ⟨rfl, (But.refl _ _).alloc _⟩
theorem lN4_3 (w : World) : Calls Tryd.prog 4 #[.int .i64 3] w fun e w' => e = .returned (.string (nm 3)) ∧ But [] w w' := by
  go_enter Tryd.func4, Tryd.ntmps4
  go_wp2
  go_ret
  exact ⟨rfl, (But.refl _ _).alloc _⟩
theorem lN4_4 (w : World) : Calls Tryd.prog 4 #[.int .i64 4] w fun e w' => e = .returned (.string (nm 4)) ∧ But [] w w' := by
  go_enter Tryd.func4, Tryd.ntmps4
  go_wp2
  go_ret
  exact ⟨rfl, (But.refl _ _).alloc _⟩
theorem lN4_5 (w : World) : Calls Tryd.prog 4 #[.int .i64 5] w fun e w' => e = .returned (.string (nm 5)) ∧ But [] w w' := by
  go_enter Tryd.func4, Tryd.ntmps4
  go_wp2
  go_ret
  exact ⟨rfl, (But.refl _ _).alloc _⟩
end Go.Proofs.YtciicifdehicgaaDoor.kind
