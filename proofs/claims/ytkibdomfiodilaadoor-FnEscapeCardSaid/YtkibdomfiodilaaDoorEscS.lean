/-
  Proved: the contract of spec.Escaped: the escaped text.
  Conditions: which from 0 to 4, texts of at most 5000 bytes.
-/
import Derived.Test.YtkibdomfiodilaaDoorJoinW
namespace Go.Proofs.YtkibdomfiodilaaDoor.esc
open Go.RowKit Mem
set_option linter.unusedVariables false

theorem nil_str (w : World) : (convert 45 9 (.slice none 0 0)).run Tryd.prog w = .ok (.string ⟨#[]⟩) w := by kernel_rfl
theorem own_str {w : World} {B : Nat} {v : Value} {l : List UInt8} (h : w.ownsRow B 5 1 v l.length (Lib.byteCells l)) : (convert 45 9 v).run Tryd.prog w = .ok (.string ⟨l.toArray⟩) w := by
  rcases h.2 with ⟨rfl, h0⟩ | ⟨g, cap, cur, rfl, -, hg, hle, -, -, htk⟩
  · have : l = [] := List.eq_nil_of_length_eq_zero h0
    subst this
    exact nil_str w
  · have hs : (⟨l.toArray⟩ : ByteArray).size = l.length := by simp [ByteArray.size]
    have hc := conv_str w 45 5 9 Tryd.underlying45 Tryd.underlying5 Tryd.underlying9 g 0 cap ⟨l.toArray⟩ (fun j hj => by
      have hj' : j < l.length := by rw [hs] at hj; exact hj
      rw [Nat.zero_add, cell_of_row _ _ j _ _ _ hg]
      have hbl : (Lib.byteCells l).length = l.length := by simp [Lib.byteCells]
      rw [Nat.mul_one] at htk
      have : cur[j]? = (Lib.byteCells l)[j]? := by rw [← htk]; simp [hj']
      rw [this]
      simp only [Lib.byteCells, List.getElem?_map, List.getElem?_eq_getElem hj', Option.map_some, List.getD, Option.getD_some])
    rw [hs] at hc
    exact hc

/-- What the loop keeps. -/
def EInv (w : World) (k : Int) (s : ByteArray) (o i : Value) (wr : World) : Prop :=
  ∃ j : Nat, j ≤ s.size ∧ i = .int .i64 j ∧ wr.ownsRow w.heap.size 5 1 o (esc k (s.data.toList.take j)).length (Lib.byteCells (esc k (s.data.toList.take j))) ∧ Below w.heap.size w wr
theorem EInv.next {w wr : World} {k : Int} {s : ByteArray} {o : Value} {j n : Nat} {xs : List Value} (hj : j + 1 ≤ s.size) (h : wr.ownsRow w.heap.size 5 1 o n xs) (hx : Lib.byteCells (esc k (s.data.toList.take (j + 1))) = xs) (hb : Below w.heap.size w wr) :
    EInv w k s o (.int .i64 ((j : Int) + 1)) wr := by
  refine ⟨j + 1, hj, by simp, ?_, hb⟩
  rw [hx]
  have hl : (esc k (s.data.toList.take (j + 1))).length = n := by
    have h1 : (Lib.byteCells (esc k (s.data.toList.take (j + 1)))).length = (esc k (s.data.toList.take (j + 1))).length := by simp [Lib.byteCells]
    rw [← h1, hx, h.1, Nat.mul_one]
  rw [hl]
  exact h

set_option maxRecDepth 100000 in
set_option maxHeartbeats 8000000 in
theorem spec13_0 (s : ByteArray) (hs : s.size ≤ 5000) (w : World) :
    Calls Tryd.prog 13 #[.int .i64 0, .string s] w fun e w' => e = .returned (.string (escS 0 s)) ∧ Below w.heap.size w w' := by
  go_enter Tryd.func13, Tryd.ntmps13
  go_wp2_with fail
  go_loopw [5, 6] (fun o i wr => EInv w 0 s o i wr) (fun _ i _ => s.size - (intOf i).toNat)
  case atStart => exact ⟨0, Nat.zero_le _, rfl, World.ownsRow_nil _ _ _ _, Below.refl _ _⟩
  case round =>
    obtain ⟨j, hj, rfl, hown, hbw⟩ := hrel
    have hsz := hbw.size
    have hle := esc_le 0 (s.data.toList.take j)
    have hle2 : (s.data.toList.take j).length ≤ 5000 := by rw [List.length_take]; omega
    have HO := Lib.hid hown
    have HB := Lib.hid hbw
    clear hown hbw
    by_cases hlt : j < s.size
    · have hpl : j < s.data.toList.length := by simpa using hlt
      have htk : s.data.toList.take (j + 1) = s.data.toList.take j ++ [s[j]'hlt] := by
        rw [List.take_succ_eq_append_getElem hpl]
        rfl
      have hes := esc_snoc 0 (s.data.toList.take j) (s[j]'hlt)
      rw [← htk] at hes
      generalize hx : s[j]'hlt = c at *
      generalize esc 0 (s.data.toList.take j) = p at *
      have HES := Lib.hid hes
      have hP : p.length ≤ 10000 := by omega
      clear hes htk hle hle2
      have hjl : (j : Int) < (s.size : Int) := by omega
      have hcl := c.toNat_lt
      by_cases c44 : c = 44
      · subst c44
        have he : escB 0 44 = [92, 44] := by decide
        rw [he] at HES
        clear he
        go_wp2_with (at_builtin; first
          | (refine app_lit rfl _ _ rfl w.heap.size v1 _ _ rfl (HO1.out.alloc _) w1.heap.size 1 1 #[.int .u8 44] rfl (heap_alloc_new w1 _) rfl (by simp [Value.oneCell']) (by omega) (by omega) (by simp; omega) ?_; intro v2 w2 hown2 hgr2; have hb2 : Below w.heap.size w1 w2 := ((Below.refl _ w1).alloc (by omega) _).grown hgr2 (by simp; omega) (fun q hq => (World.ownsRow.lt HO1.out q hq).1); have hs2 := hb2.size; have HO2 := Lib.hid hown2; clear hown2 hgr2)
          | (refine app_lit rfl _ _ rfl w.heap.size u5 _ _ rfl (HO.out.alloc _) wr.heap.size 1 1 #[.int .u8 92] rfl (heap_alloc_new wr _) rfl (by simp [Value.oneCell']) (by omega) (by omega) (by simp; omega) ?_; intro v1 w1 hown1 hgr1; have hb1 : Below w.heap.size wr w1 := ((Below.refl _ wr).alloc (by omega) _).grown hgr1 (by simp; omega) (fun q hq => (World.ownsRow.lt HO.out q hq).1); have hs1 := hb1.size; have HO1 := Lib.hid hown1; clear hown1 hgr1))
        go_roundw
        case rel => exact EInv.next (by omega) HO2.out (by rw [HES.out]; simp [Lib.byteCells]) ((HB.out.trans hb1).trans hb2)
        case measure => simp [intOf]; omega
      by_cases c32 : c = 32
      · subst c32
        have he : escB 0 32 = [92, 32] := by decide
        rw [he] at HES
        clear he
        go_wp2_with (at_builtin; first
          | (refine app_lit rfl _ _ rfl w.heap.size v1 _ _ rfl (HO1.out.alloc _) w1.heap.size 1 1 #[.int .u8 32] rfl (heap_alloc_new w1 _) rfl (by simp [Value.oneCell']) (by omega) (by omega) (by simp; omega) ?_; intro v2 w2 hown2 hgr2; have hb2 : Below w.heap.size w1 w2 := ((Below.refl _ w1).alloc (by omega) _).grown hgr2 (by simp; omega) (fun q hq => (World.ownsRow.lt HO1.out q hq).1); have hs2 := hb2.size; have HO2 := Lib.hid hown2; clear hown2 hgr2)
          | (refine app_lit rfl _ _ rfl w.heap.size u5 _ _ rfl (HO.out.alloc _) wr.heap.size 1 1 #[.int .u8 92] rfl (heap_alloc_new wr _) rfl (by simp [Value.oneCell']) (by omega) (by omega) (by simp; omega) ?_; intro v1 w1 hown1 hgr1; have hb1 : Below w.heap.size wr w1 := ((Below.refl _ wr).alloc (by omega) _).grown hgr1 (by simp; omega) (fun q hq => (World.ownsRow.lt HO.out q hq).1); have hs1 := hb1.size; have HO1 := Lib.hid hown1; clear hown1 hgr1))
        go_roundw
        case rel => exact EInv.next (by omega) HO2.out (by rw [HES.out]; simp [Lib.byteCells]) ((HB.out.trans hb1).trans hb2)
        case measure => simp [intOf]; omega
      by_cases c61 : c = 61
      · subst c61
        have he : escB 0 61 = [61] := by decide
        rw [he] at HES
        clear he
        go_wp2_with (at_builtin; first
          | (refine app_lit rfl _ _ rfl w.heap.size u5 _ _ rfl (HO.out.alloc _) wr.heap.size 1 1 #[.int .u8 61] rfl (heap_alloc_new wr _) rfl (by simp [Value.oneCell']) (by omega) (by omega) (by simp; omega) ?_; intro v1 w1 hown1 hgr1; have hb1 : Below w.heap.size wr w1 := ((Below.refl _ wr).alloc (by omega) _).grown hgr1 (by simp; omega) (fun q hq => (World.ownsRow.lt HO.out q hq).1); have hs1 := hb1.size; have HO1 := Lib.hid hown1; clear hown1 hgr1))
        go_roundw
        case rel => exact EInv.next (by omega) HO1.out (by rw [HES.out]; simp [Lib.byteCells]) (HB.out.trans hb1)
        case measure => simp [intOf]; omega
      have he : escB 0 c = [c] := by
        have : tab 0 c = 0 := by
          unfold tab
          rw [if_neg]
          simp [escs, c44, c32]
        simp [escB, this]
      rw [he] at HES
      clear he
      have n44 : ((c.toNat : Int) == 44) = false := by
        rw [beq_eq_false_iff_ne]
        intro e
        exact c44 (UInt8.toNat_inj.1 (by show c.toNat = 44; omega))
      have n32 : ((c.toNat : Int) == 32) = false := by
        rw [beq_eq_false_iff_ne]
        intro e
        exact c32 (UInt8.toNat_inj.1 (by show c.toNat = 32; omega))
      have n61 : ((c.toNat : Int) == 61) = false := by
        rw [beq_eq_false_iff_ne]
        intro e
        exact c61 (UInt8.toNat_inj.1 (by show c.toNat = 61; omega))
      clear c44 c32 c61
      go_wp2_with (at_builtin; first
        | (refine app_lit rfl _ _ rfl w.heap.size u5 _ _ rfl (HO.out.alloc _) wr.heap.size 1 1 #[.int .u8 c.toNat] rfl (heap_alloc_new wr _) rfl (by simp [Value.oneCell']) (by omega) (by omega) (by simp; omega) ?_; intro v1 w1 hown1 hgr1; have hb1 : Below w.heap.size wr w1 := ((Below.refl _ wr).alloc (by omega) _).grown hgr1 (by simp; omega) (fun q hq => (World.ownsRow.lt HO.out q hq).1); have hs1 := hb1.size; have HO1 := Lib.hid hown1; clear hown1 hgr1))
      go_roundw
      case rel => exact EInv.next (by omega) HO1.out (by rw [HES.out]; simp [Lib.byteCells]) (HB.out.trans hb1)
      case measure => simp [intOf]; omega
    · have he : j = s.size := by omega
      have hall : s.data.toList.take j = s.data.toList := by rw [he]; exact List.take_of_length_le (by simp)
      rw [hall] at HO
      have hcv := own_str HO.out
      have hjl : ¬ ((j : Int) < (s.size : Int)) := by omega
      clear HO hall hle hle2
      go_wp2
      go_ret
      exact ⟨rfl, HB.out⟩

set_option maxRecDepth 100000 in
set_option maxHeartbeats 8000000 in
theorem spec13_1 (s : ByteArray) (hs : s.size ≤ 5000) (w : World) :
    Calls Tryd.prog 13 #[.int .i64 1, .string s] w fun e w' => e = .returned (.string (escS 1 s)) ∧ Below w.heap.size w w' := by
  go_enter Tryd.func13, Tryd.ntmps13
  go_wp2_with fail
  go_loopw [5, 6] (fun o i wr => EInv w 1 s o i wr) (fun _ i _ => s.size - (intOf i).toNat)
  case atStart => exact ⟨0, Nat.zero_le _, rfl, World.ownsRow_nil _ _ _ _, Below.refl _ _⟩
  case round =>
    obtain ⟨j, hj, rfl, hown, hbw⟩ := hrel
    have hsz := hbw.size
    have hle := esc_le 1 (s.data.toList.take j)
    have hle2 : (s.data.toList.take j).length ≤ 5000 := by rw [List.length_take]; omega
    have HO := Lib.hid hown
    have HB := Lib.hid hbw
    clear hown hbw
    by_cases hlt : j < s.size
    · have hpl : j < s.data.toList.length := by simpa using hlt
      have htk : s.data.toList.take (j + 1) = s.data.toList.take j ++ [s[j]'hlt] := by
        rw [List.take_succ_eq_append_getElem hpl]
        rfl
      have hes := esc_snoc 1 (s.data.toList.take j) (s[j]'hlt)
      rw [← htk] at hes
      generalize hx : s[j]'hlt = c at *
      generalize esc 1 (s.data.toList.take j) = p at *
      have HES := Lib.hid hes
      have hP : p.length ≤ 10000 := by omega
      clear hes htk hle hle2
      have hjl : (j : Int) < (s.size : Int) := by omega
      have hcl := c.toNat_lt
      by_cases c44 : c = 44
      · subst c44
        have he : escB 1 44 = [92, 44] := by decide
        rw [he] at HES
        clear he
        go_wp2_with (at_builtin; first
          | (refine app_lit rfl _ _ rfl w.heap.size v1 _ _ rfl (HO1.out.alloc _) w1.heap.size 1 1 #[.int .u8 44] rfl (heap_alloc_new w1 _) rfl (by simp [Value.oneCell']) (by omega) (by omega) (by simp; omega) ?_; intro v2 w2 hown2 hgr2; have hb2 : Below w.heap.size w1 w2 := ((Below.refl _ w1).alloc (by omega) _).grown hgr2 (by simp; omega) (fun q hq => (World.ownsRow.lt HO1.out q hq).1); have hs2 := hb2.size; have HO2 := Lib.hid hown2; clear hown2 hgr2)
          | (refine app_lit rfl _ _ rfl w.heap.size u5 _ _ rfl (HO.out.alloc _) wr.heap.size 1 1 #[.int .u8 92] rfl (heap_alloc_new wr _) rfl (by simp [Value.oneCell']) (by omega) (by omega) (by simp; omega) ?_; intro v1 w1 hown1 hgr1; have hb1 : Below w.heap.size wr w1 := ((Below.refl _ wr).alloc (by omega) _).grown hgr1 (by simp; omega) (fun q hq => (World.ownsRow.lt HO.out q hq).1); have hs1 := hb1.size; have HO1 := Lib.hid hown1; clear hown1 hgr1))
        go_roundw
        case rel => exact EInv.next (by omega) HO2.out (by rw [HES.out]; simp [Lib.byteCells]) ((HB.out.trans hb1).trans hb2)
        case measure => simp [intOf]; omega
      by_cases c32 : c = 32
      · subst c32
        have he : escB 1 32 = [92, 32] := by decide
        rw [he] at HES
        clear he
        go_wp2_with (at_builtin; first
          | (refine app_lit rfl _ _ rfl w.heap.size v1 _ _ rfl (HO1.out.alloc _) w1.heap.size 1 1 #[.int .u8 32] rfl (heap_alloc_new w1 _) rfl (by simp [Value.oneCell']) (by omega) (by omega) (by simp; omega) ?_; intro v2 w2 hown2 hgr2; have hb2 : Below w.heap.size w1 w2 := ((Below.refl _ w1).alloc (by omega) _).grown hgr2 (by simp; omega) (fun q hq => (World.ownsRow.lt HO1.out q hq).1); have hs2 := hb2.size; have HO2 := Lib.hid hown2; clear hown2 hgr2)
          | (refine app_lit rfl _ _ rfl w.heap.size u5 _ _ rfl (HO.out.alloc _) wr.heap.size 1 1 #[.int .u8 92] rfl (heap_alloc_new wr _) rfl (by simp [Value.oneCell']) (by omega) (by omega) (by simp; omega) ?_; intro v1 w1 hown1 hgr1; have hb1 : Below w.heap.size wr w1 := ((Below.refl _ wr).alloc (by omega) _).grown hgr1 (by simp; omega) (fun q hq => (World.ownsRow.lt HO.out q hq).1); have hs1 := hb1.size; have HO1 := Lib.hid hown1; clear hown1 hgr1))
        go_roundw
        case rel => exact EInv.next (by omega) HO2.out (by rw [HES.out]; simp [Lib.byteCells]) ((HB.out.trans hb1).trans hb2)
        case measure => simp [intOf]; omega
      by_cases c61 : c = 61
      · subst c61
        have he : escB 1 61 = [92, 61] := by decide
        rw [he] at HES
        clear he
        go_wp2_with (at_builtin; first
          | (refine app_lit rfl _ _ rfl w.heap.size v1 _ _ rfl (HO1.out.alloc _) w1.heap.size 1 1 #[.int .u8 61] rfl (heap_alloc_new w1 _) rfl (by simp [Value.oneCell']) (by omega) (by omega) (by simp; omega) ?_; intro v2 w2 hown2 hgr2; have hb2 : Below w.heap.size w1 w2 := ((Below.refl _ w1).alloc (by omega) _).grown hgr2 (by simp; omega) (fun q hq => (World.ownsRow.lt HO1.out q hq).1); have hs2 := hb2.size; have HO2 := Lib.hid hown2; clear hown2 hgr2)
          | (refine app_lit rfl _ _ rfl w.heap.size u5 _ _ rfl (HO.out.alloc _) wr.heap.size 1 1 #[.int .u8 92] rfl (heap_alloc_new wr _) rfl (by simp [Value.oneCell']) (by omega) (by omega) (by simp; omega) ?_; intro v1 w1 hown1 hgr1; have hb1 : Below w.heap.size wr w1 := ((Below.refl _ wr).alloc (by omega) _).grown hgr1 (by simp; omega) (fun q hq => (World.ownsRow.lt HO.out q hq).1); have hs1 := hb1.size; have HO1 := Lib.hid hown1; clear hown1 hgr1))
        go_roundw
        case rel => exact EInv.next (by omega) HO2.out (by rw [HES.out]; simp [Lib.byteCells]) ((HB.out.trans hb1).trans hb2)
        case measure => simp [intOf]; omega
      have he : escB 1 c = [c] := by
        have : tab 1 c = 0 := by
          unfold tab
          rw [if_neg]
          simp [escs, c44, c32, c61]
        simp [escB, this]
      rw [he] at HES
      clear he
      have n44 : ((c.toNat : Int) == 44) = false := by
        rw [beq_eq_false_iff_ne]
        intro e
        exact c44 (UInt8.toNat_inj.1 (by show c.toNat = 44; omega))
      have n32 : ((c.toNat : Int) == 32) = false := by
        rw [beq_eq_false_iff_ne]
        intro e
        exact c32 (UInt8.toNat_inj.1 (by show c.toNat = 32; omega))
      have n61 : ((c.toNat : Int) == 61) = false := by
        rw [beq_eq_false_iff_ne]
        intro e
        exact c61 (UInt8.toNat_inj.1 (by show c.toNat = 61; omega))
      clear c44 c32 c61
      go_wp2_with (at_builtin; first
        | (refine app_lit rfl _ _ rfl w.heap.size u5 _ _ rfl (HO.out.alloc _) wr.heap.size 1 1 #[.int .u8 c.toNat] rfl (heap_alloc_new wr _) rfl (by simp [Value.oneCell']) (by omega) (by omega) (by simp; omega) ?_; intro v1 w1 hown1 hgr1; have hb1 : Below w.heap.size wr w1 := ((Below.refl _ wr).alloc (by omega) _).grown hgr1 (by simp; omega) (fun q hq => (World.ownsRow.lt HO.out q hq).1); have hs1 := hb1.size; have HO1 := Lib.hid hown1; clear hown1 hgr1))
      go_roundw
      case rel => exact EInv.next (by omega) HO1.out (by rw [HES.out]; simp [Lib.byteCells]) (HB.out.trans hb1)
      case measure => simp [intOf]; omega
    · have he : j = s.size := by omega
      have hall : s.data.toList.take j = s.data.toList := by rw [he]; exact List.take_of_length_le (by simp)
      rw [hall] at HO
      have hcv := own_str HO.out
      have hjl : ¬ ((j : Int) < (s.size : Int)) := by omega
      clear HO hall hle hle2
      go_wp2
      go_ret
      exact ⟨rfl, HB.out⟩

set_option maxRecDepth 100000 in
set_option maxHeartbeats 8000000 in
theorem spec13_2 (s : ByteArray) (hs : s.size ≤ 5000) (w : World) :
    Calls Tryd.prog 13 #[.int .i64 2, .string s] w fun e w' => e = .returned (.string (escS 2 s)) ∧ Below w.heap.size w w' := by
  go_enter Tryd.func13, Tryd.ntmps13
  go_wp2_with fail
  go_loopw [5, 6] (fun o i wr => EInv w 2 s o i wr) (fun _ i _ => s.size - (intOf i).toNat)
  case atStart => exact ⟨0, Nat.zero_le _, rfl, World.ownsRow_nil _ _ _ _, Below.refl _ _⟩
  case round =>
    obtain ⟨j, hj, rfl, hown, hbw⟩ := hrel
    have hsz := hbw.size
    have hle := esc_le 2 (s.data.toList.take j)
    have hle2 : (s.data.toList.take j).length ≤ 5000 := by rw [List.length_take]; omega
    have HO := Lib.hid hown
    have HB := Lib.hid hbw
    clear hown hbw
    by_cases hlt : j < s.size
    · have hpl : j < s.data.toList.length := by simpa using hlt
      have htk : s.data.toList.take (j + 1) = s.data.toList.take j ++ [s[j]'hlt] := by
        rw [List.take_succ_eq_append_getElem hpl]
        rfl
      have hes := esc_snoc 2 (s.data.toList.take j) (s[j]'hlt)
      rw [← htk] at hes
      generalize hx : s[j]'hlt = c at *
      generalize esc 2 (s.data.toList.take j) = p at *
      have HES := Lib.hid hes
      have hP : p.length ≤ 10000 := by omega
      clear hes htk hle hle2
      have hjl : (j : Int) < (s.size : Int) := by omega
      have hcl := c.toNat_lt
      by_cases c44 : c = 44
      · subst c44
        have he : escB 2 44 = [92, 44] := by decide
        rw [he] at HES
        clear he
        go_wp2_with (at_builtin; first
          | (refine app_lit rfl _ _ rfl w.heap.size v1 _ _ rfl (HO1.out.alloc _) w1.heap.size 1 1 #[.int .u8 44] rfl (heap_alloc_new w1 _) rfl (by simp [Value.oneCell']) (by omega) (by omega) (by simp; omega) ?_; intro v2 w2 hown2 hgr2; have hb2 : Below w.heap.size w1 w2 := ((Below.refl _ w1).alloc (by omega) _).grown hgr2 (by simp; omega) (fun q hq => (World.ownsRow.lt HO1.out q hq).1); have hs2 := hb2.size; have HO2 := Lib.hid hown2; clear hown2 hgr2)
          | (refine app_lit rfl _ _ rfl w.heap.size u5 _ _ rfl (HO.out.alloc _) wr.heap.size 1 1 #[.int .u8 92] rfl (heap_alloc_new wr _) rfl (by simp [Value.oneCell']) (by omega) (by omega) (by simp; omega) ?_; intro v1 w1 hown1 hgr1; have hb1 : Below w.heap.size wr w1 := ((Below.refl _ wr).alloc (by omega) _).grown hgr1 (by simp; omega) (fun q hq => (World.ownsRow.lt HO.out q hq).1); have hs1 := hb1.size; have HO1 := Lib.hid hown1; clear hown1 hgr1))
        go_roundw
        case rel => exact EInv.next (by omega) HO2.out (by rw [HES.out]; simp [Lib.byteCells]) ((HB.out.trans hb1).trans hb2)
        case measure => simp [intOf]; omega
      by_cases c32 : c = 32
      · subst c32
        have he : escB 2 32 = [92, 32] := by decide
        rw [he] at HES
        clear he
        go_wp2_with (at_builtin; first
          | (refine app_lit rfl _ _ rfl w.heap.size v1 _ _ rfl (HO1.out.alloc _) w1.heap.size 1 1 #[.int .u8 32] rfl (heap_alloc_new w1 _) rfl (by simp [Value.oneCell']) (by omega) (by omega) (by simp; omega) ?_; intro v2 w2 hown2 hgr2; have hb2 : Below w.heap.size w1 w2 := ((Below.refl _ w1).alloc (by omega) _).grown hgr2 (by simp; omega) (fun q hq => (World.ownsRow.lt HO1.out q hq).1); have hs2 := hb2.size; have HO2 := Lib.hid hown2; clear hown2 hgr2)
          | (refine app_lit rfl _ _ rfl w.heap.size u5 _ _ rfl (HO.out.alloc _) wr.heap.size 1 1 #[.int .u8 92] rfl (heap_alloc_new wr _) rfl (by simp [Value.oneCell']) (by omega) (by omega) (by simp; omega) ?_; intro v1 w1 hown1 hgr1; have hb1 : Below w.heap.size wr w1 := ((Below.refl _ wr).alloc (by omega) _).grown hgr1 (by simp; omega) (fun q hq => (World.ownsRow.lt HO.out q hq).1); have hs1 := hb1.size; have HO1 := Lib.hid hown1; clear hown1 hgr1))
        go_roundw
        case rel => exact EInv.next (by omega) HO2.out (by rw [HES.out]; simp [Lib.byteCells]) ((HB.out.trans hb1).trans hb2)
        case measure => simp [intOf]; omega
      by_cases c61 : c = 61
      · subst c61
        have he : escB 2 61 = [92, 61] := by decide
        rw [he] at HES
        clear he
        go_wp2_with (at_builtin; first
          | (refine app_lit rfl _ _ rfl w.heap.size v1 _ _ rfl (HO1.out.alloc _) w1.heap.size 1 1 #[.int .u8 61] rfl (heap_alloc_new w1 _) rfl (by simp [Value.oneCell']) (by omega) (by omega) (by simp; omega) ?_; intro v2 w2 hown2 hgr2; have hb2 : Below w.heap.size w1 w2 := ((Below.refl _ w1).alloc (by omega) _).grown hgr2 (by simp; omega) (fun q hq => (World.ownsRow.lt HO1.out q hq).1); have hs2 := hb2.size; have HO2 := Lib.hid hown2; clear hown2 hgr2)
          | (refine app_lit rfl _ _ rfl w.heap.size u5 _ _ rfl (HO.out.alloc _) wr.heap.size 1 1 #[.int .u8 92] rfl (heap_alloc_new wr _) rfl (by simp [Value.oneCell']) (by omega) (by omega) (by simp; omega) ?_; intro v1 w1 hown1 hgr1; have hb1 : Below w.heap.size wr w1 := ((Below.refl _ wr).alloc (by omega) _).grown hgr1 (by simp; omega) (fun q hq => (World.ownsRow.lt HO.out q hq).1); have hs1 := hb1.size; have HO1 := Lib.hid hown1; clear hown1 hgr1))
        go_roundw
        case rel => exact EInv.next (by omega) HO2.out (by rw [HES.out]; simp [Lib.byteCells]) ((HB.out.trans hb1).trans hb2)
        case measure => simp [intOf]; omega
      have he : escB 2 c = [c] := by
        have : tab 2 c = 0 := by
          unfold tab
          rw [if_neg]
          simp [escs, c44, c32, c61]
        simp [escB, this]
      rw [he] at HES
      clear he
      have n44 : ((c.toNat : Int) == 44) = false := by
        rw [beq_eq_false_iff_ne]
        intro e
        exact c44 (UInt8.toNat_inj.1 (by show c.toNat = 44; omega))
      have n32 : ((c.toNat : Int) == 32) = false := by
        rw [beq_eq_false_iff_ne]
        intro e
        exact c32 (UInt8.toNat_inj.1 (by show c.toNat = 32; omega))
      have n61 : ((c.toNat : Int) == 61) = false := by
        rw [beq_eq_false_iff_ne]
        intro e
        exact c61 (UInt8.toNat_inj.1 (by show c.toNat = 61; omega))
      clear c44 c32 c61
      go_wp2_with (at_builtin; first
        | (refine app_lit rfl _ _ rfl w.heap.size u5 _ _ rfl (HO.out.alloc _) wr.heap.size 1 1 #[.int .u8 c.toNat] rfl (heap_alloc_new wr _) rfl (by simp [Value.oneCell']) (by omega) (by omega) (by simp; omega) ?_; intro v1 w1 hown1 hgr1; have hb1 : Below w.heap.size wr w1 := ((Below.refl _ wr).alloc (by omega) _).grown hgr1 (by simp; omega) (fun q hq => (World.ownsRow.lt HO.out q hq).1); have hs1 := hb1.size; have HO1 := Lib.hid hown1; clear hown1 hgr1))
      go_roundw
      case rel => exact EInv.next (by omega) HO1.out (by rw [HES.out]; simp [Lib.byteCells]) (HB.out.trans hb1)
      case measure => simp [intOf]; omega
    · have he : j = s.size := by omega
      have hall : s.data.toList.take j = s.data.toList := by rw [he]; exact List.take_of_length_le (by simp)
      rw [hall] at HO
      have hcv := own_str HO.out
      have hjl : ¬ ((j : Int) < (s.size : Int)) := by omega
      clear HO hall hle hle2
      go_wp2
      go_ret
      exact ⟨rfl, HB.out⟩

set_option maxRecDepth 100000 in
set_option maxHeartbeats 8000000 in
theorem spec13_3 (s : ByteArray) (hs : s.size ≤ 5000) (w : World) :
    Calls Tryd.prog 13 #[.int .i64 3, .string s] w fun e w' => e = .returned (.string (escS 3 s)) ∧ Below w.heap.size w w' := by
  go_enter Tryd.func13, Tryd.ntmps13
  go_wp2_with fail
  go_loopw [5, 6] (fun o i wr => EInv w 3 s o i wr) (fun _ i _ => s.size - (intOf i).toNat)
  case atStart => exact ⟨0, Nat.zero_le _, rfl, World.ownsRow_nil _ _ _ _, Below.refl _ _⟩
  case round =>
    obtain ⟨j, hj, rfl, hown, hbw⟩ := hrel
    have hsz := hbw.size
    have hle := esc_le 3 (s.data.toList.take j)
    have hle2 : (s.data.toList.take j).length ≤ 5000 := by rw [List.length_take]; omega
    have HO := Lib.hid hown
    have HB := Lib.hid hbw
    clear hown hbw
    by_cases hlt : j < s.size
    · have hpl : j < s.data.toList.length := by simpa using hlt
      have htk : s.data.toList.take (j + 1) = s.data.toList.take j ++ [s[j]'hlt] := by
        rw [List.take_succ_eq_append_getElem hpl]
        rfl
      have hes := esc_snoc 3 (s.data.toList.take j) (s[j]'hlt)
      rw [← htk] at hes
      generalize hx : s[j]'hlt = c at *
      generalize esc 3 (s.data.toList.take j) = p at *
      have HES := Lib.hid hes
      have hP : p.length ≤ 10000 := by omega
      clear hes htk hle hle2
      have hjl : (j : Int) < (s.size : Int) := by omega
      have hcl := c.toNat_lt
      by_cases c44 : c = 44
      · subst c44
        have he : escB 3 44 = [92, 44] := by decide
        rw [he] at HES
        clear he
        go_wp2_with (at_builtin; first
          | (refine app_lit rfl _ _ rfl w.heap.size v1 _ _ rfl (HO1.out.alloc _) w1.heap.size 1 1 #[.int .u8 44] rfl (heap_alloc_new w1 _) rfl (by simp [Value.oneCell']) (by omega) (by omega) (by simp; omega) ?_; intro v2 w2 hown2 hgr2; have hb2 : Below w.heap.size w1 w2 := ((Below.refl _ w1).alloc (by omega) _).grown hgr2 (by simp; omega) (fun q hq => (World.ownsRow.lt HO1.out q hq).1); have hs2 := hb2.size; have HO2 := Lib.hid hown2; clear hown2 hgr2)
          | (refine app_lit rfl _ _ rfl w.heap.size u5 _ _ rfl (HO.out.alloc _) wr.heap.size 1 1 #[.int .u8 92] rfl (heap_alloc_new wr _) rfl (by simp [Value.oneCell']) (by omega) (by omega) (by simp; omega) ?_; intro v1 w1 hown1 hgr1; have hb1 : Below w.heap.size wr w1 := ((Below.refl _ wr).alloc (by omega) _).grown hgr1 (by simp; omega) (fun q hq => (World.ownsRow.lt HO.out q hq).1); have hs1 := hb1.size; have HO1 := Lib.hid hown1; clear hown1 hgr1))
        go_roundw
        case rel => exact EInv.next (by omega) HO2.out (by rw [HES.out]; simp [Lib.byteCells]) ((HB.out.trans hb1).trans hb2)
        case measure => simp [intOf]; omega
      by_cases c32 : c = 32
      · subst c32
        have he : escB 3 32 = [92, 32] := by decide
        rw [he] at HES
        clear he
        go_wp2_with (at_builtin; first
          | (refine app_lit rfl _ _ rfl w.heap.size v1 _ _ rfl (HO1.out.alloc _) w1.heap.size 1 1 #[.int .u8 32] rfl (heap_alloc_new w1 _) rfl (by simp [Value.oneCell']) (by omega) (by omega) (by simp; omega) ?_; intro v2 w2 hown2 hgr2; have hb2 : Below w.heap.size w1 w2 := ((Below.refl _ w1).alloc (by omega) _).grown hgr2 (by simp; omega) (fun q hq => (World.ownsRow.lt HO1.out q hq).1); have hs2 := hb2.size; have HO2 := Lib.hid hown2; clear hown2 hgr2)
          | (refine app_lit rfl _ _ rfl w.heap.size u5 _ _ rfl (HO.out.alloc _) wr.heap.size 1 1 #[.int .u8 92] rfl (heap_alloc_new wr _) rfl (by simp [Value.oneCell']) (by omega) (by omega) (by simp; omega) ?_; intro v1 w1 hown1 hgr1; have hb1 : Below w.heap.size wr w1 := ((Below.refl _ wr).alloc (by omega) _).grown hgr1 (by simp; omega) (fun q hq => (World.ownsRow.lt HO.out q hq).1); have hs1 := hb1.size; have HO1 := Lib.hid hown1; clear hown1 hgr1))
        go_roundw
        case rel => exact EInv.next (by omega) HO2.out (by rw [HES.out]; simp [Lib.byteCells]) ((HB.out.trans hb1).trans hb2)
        case measure => simp [intOf]; omega
      by_cases c61 : c = 61
      · subst c61
        have he : escB 3 61 = [92, 61] := by decide
        rw [he] at HES
        clear he
        go_wp2_with (at_builtin; first
          | (refine app_lit rfl _ _ rfl w.heap.size v1 _ _ rfl (HO1.out.alloc _) w1.heap.size 1 1 #[.int .u8 61] rfl (heap_alloc_new w1 _) rfl (by simp [Value.oneCell']) (by omega) (by omega) (by simp; omega) ?_; intro v2 w2 hown2 hgr2; have hb2 : Below w.heap.size w1 w2 := ((Below.refl _ w1).alloc (by omega) _).grown hgr2 (by simp; omega) (fun q hq => (World.ownsRow.lt HO1.out q hq).1); have hs2 := hb2.size; have HO2 := Lib.hid hown2; clear hown2 hgr2)
          | (refine app_lit rfl _ _ rfl w.heap.size u5 _ _ rfl (HO.out.alloc _) wr.heap.size 1 1 #[.int .u8 92] rfl (heap_alloc_new wr _) rfl (by simp [Value.oneCell']) (by omega) (by omega) (by simp; omega) ?_; intro v1 w1 hown1 hgr1; have hb1 : Below w.heap.size wr w1 := ((Below.refl _ wr).alloc (by omega) _).grown hgr1 (by simp; omega) (fun q hq => (World.ownsRow.lt HO.out q hq).1); have hs1 := hb1.size; have HO1 := Lib.hid hown1; clear hown1 hgr1))
        go_roundw
        case rel => exact EInv.next (by omega) HO2.out (by rw [HES.out]; simp [Lib.byteCells]) ((HB.out.trans hb1).trans hb2)
        case measure => simp [intOf]; omega
      have he : escB 3 c = [c] := by
        have : tab 3 c = 0 := by
          unfold tab
          rw [if_neg]
          simp [escs, c44, c32, c61]
        simp [escB, this]
      rw [he] at HES
      clear he
      have n44 : ((c.toNat : Int) == 44) = false := by
        rw [beq_eq_false_iff_ne]
        intro e
        exact c44 (UInt8.toNat_inj.1 (by show c.toNat = 44; omega))
      have n32 : ((c.toNat : Int) == 32) = false := by
        rw [beq_eq_false_iff_ne]
        intro e
        exact c32 (UInt8.toNat_inj.1 (by show c.toNat = 32; omega))
      have n61 : ((c.toNat : Int) == 61) = false := by
        rw [beq_eq_false_iff_ne]
        intro e
        exact c61 (UInt8.toNat_inj.1 (by show c.toNat = 61; omega))
      clear c44 c32 c61
      go_wp2_with (at_builtin; first
        | (refine app_lit rfl _ _ rfl w.heap.size u5 _ _ rfl (HO.out.alloc _) wr.heap.size 1 1 #[.int .u8 c.toNat] rfl (heap_alloc_new wr _) rfl (by simp [Value.oneCell']) (by omega) (by omega) (by simp; omega) ?_; intro v1 w1 hown1 hgr1; have hb1 : Below w.heap.size wr w1 := ((Below.refl _ wr).alloc (by omega) _).grown hgr1 (by simp; omega) (fun q hq => (World.ownsRow.lt HO.out q hq).1); have hs1 := hb1.size; have HO1 := Lib.hid hown1; clear hown1 hgr1))
      go_roundw
      case rel => exact EInv.next (by omega) HO1.out (by rw [HES.out]; simp [Lib.byteCells]) (HB.out.trans hb1)
      case measure => simp [intOf]; omega
    · have he : j = s.size := by omega
      have hall : s.data.toList.take j = s.data.toList := by rw [he]; exact List.take_of_length_le (by simp)
      rw [hall] at HO
      have hcv := own_str HO.out
      have hjl : ¬ ((j : Int) < (s.size : Int)) := by omega
      clear HO hall hle hle2
      go_wp2
      go_ret
      exact ⟨rfl, HB.out⟩

set_option maxRecDepth 100000 in
set_option maxHeartbeats 8000000 in
theorem spec13_4 (s : ByteArray) (hs : s.size ≤ 5000) (w : World) :
    Calls Tryd.prog 13 #[.int .i64 4, .string s] w fun e w' => e = .returned (.string (escS 4 s)) ∧ Below w.heap.size w w' := by
  go_enter Tryd.func13, Tryd.ntmps13
  go_wp2_with fail
  go_loopw [5, 6] (fun o i wr => EInv w 4 s o i wr) (fun _ i _ => s.size - (intOf i).toNat)
  case atStart => exact ⟨0, Nat.zero_le _, rfl, World.ownsRow_nil _ _ _ _, Below.refl _ _⟩
  case round =>
    obtain ⟨j, hj, rfl, hown, hbw⟩ := hrel
    have hsz := hbw.size
    have hle := esc_le 4 (s.data.toList.take j)
    have hle2 : (s.data.toList.take j).length ≤ 5000 := by rw [List.length_take]; omega
    have HO := Lib.hid hown
    have HB := Lib.hid hbw
    clear hown hbw
    by_cases hlt : j < s.size
    · have hpl : j < s.data.toList.length := by simpa using hlt
      have htk : s.data.toList.take (j + 1) = s.data.toList.take j ++ [s[j]'hlt] := by
        rw [List.take_succ_eq_append_getElem hpl]
        rfl
      have hes := esc_snoc 4 (s.data.toList.take j) (s[j]'hlt)
      rw [← htk] at hes
      generalize hx : s[j]'hlt = c at *
      generalize esc 4 (s.data.toList.take j) = p at *
      have HES := Lib.hid hes
      have hP : p.length ≤ 10000 := by omega
      clear hes htk hle hle2
      have hjl : (j : Int) < (s.size : Int) := by omega
      have hcl := c.toNat_lt
      by_cases c10 : c = 10
      · subst c10
        have he : escB 4 10 = [92, 110] := by decide
        rw [he] at HES
        clear he
        go_wp2_with (at_builtin; first
          | (refine app_lit rfl _ _ rfl w.heap.size u5 _ _ rfl (HO.out.alloc _) wr.heap.size 2 2 #[.int .u8 92, .int .u8 110] rfl (heap_alloc_new wr _) rfl (by simp [Value.oneCell']) (by omega) (by omega) (by simp; omega) ?_; intro v1 w1 hown1 hgr1; have hb1 : Below w.heap.size wr w1 := ((Below.refl _ wr).alloc (by omega) _).grown hgr1 (by simp; omega) (fun q hq => (World.ownsRow.lt HO.out q hq).1); have hs1 := hb1.size; have HO1 := Lib.hid hown1; clear hown1 hgr1))
        go_roundw
        case rel => exact EInv.next (by omega) HO1.out (by rw [HES.out]; simp [Lib.byteCells]) (HB.out.trans hb1)
        case measure => simp [intOf]; omega
      by_cases c13 : c = 13
      · subst c13
        have he : escB 4 13 = [92, 114] := by decide
        rw [he] at HES
        clear he
        go_wp2_with (at_builtin; first
          | (refine app_lit rfl _ _ rfl w.heap.size u5 _ _ rfl (HO.out.alloc _) wr.heap.size 2 2 #[.int .u8 92, .int .u8 114] rfl (heap_alloc_new wr _) rfl (by simp [Value.oneCell']) (by omega) (by omega) (by simp; omega) ?_; intro v1 w1 hown1 hgr1; have hb1 : Below w.heap.size wr w1 := ((Below.refl _ wr).alloc (by omega) _).grown hgr1 (by simp; omega) (fun q hq => (World.ownsRow.lt HO.out q hq).1); have hs1 := hb1.size; have HO1 := Lib.hid hown1; clear hown1 hgr1))
        go_roundw
        case rel => exact EInv.next (by omega) HO1.out (by rw [HES.out]; simp [Lib.byteCells]) (HB.out.trans hb1)
        case measure => simp [intOf]; omega
      by_cases c9 : c = 9
      · subst c9
        have he : escB 4 9 = [92, 116] := by decide
        rw [he] at HES
        clear he
        go_wp2_with (at_builtin; first
          | (refine app_lit rfl _ _ rfl w.heap.size u5 _ _ rfl (HO.out.alloc _) wr.heap.size 2 2 #[.int .u8 92, .int .u8 116] rfl (heap_alloc_new wr _) rfl (by simp [Value.oneCell']) (by omega) (by omega) (by simp; omega) ?_; intro v1 w1 hown1 hgr1; have hb1 : Below w.heap.size wr w1 := ((Below.refl _ wr).alloc (by omega) _).grown hgr1 (by simp; omega) (fun q hq => (World.ownsRow.lt HO.out q hq).1); have hs1 := hb1.size; have HO1 := Lib.hid hown1; clear hown1 hgr1))
        go_roundw
        case rel => exact EInv.next (by omega) HO1.out (by rw [HES.out]; simp [Lib.byteCells]) (HB.out.trans hb1)
        case measure => simp [intOf]; omega
      by_cases c92 : c = 92
      · subst c92
        have he : escB 4 92 = [92, 92] := by decide
        rw [he] at HES
        clear he
        go_wp2_with (at_builtin; first
          | (refine app_lit rfl _ _ rfl w.heap.size v1 _ _ rfl (HO1.out.alloc _) w1.heap.size 1 1 #[.int .u8 92] rfl (heap_alloc_new w1 _) rfl (by simp [Value.oneCell']) (by omega) (by omega) (by simp; omega) ?_; intro v2 w2 hown2 hgr2; have hb2 : Below w.heap.size w1 w2 := ((Below.refl _ w1).alloc (by omega) _).grown hgr2 (by simp; omega) (fun q hq => (World.ownsRow.lt HO1.out q hq).1); have hs2 := hb2.size; have HO2 := Lib.hid hown2; clear hown2 hgr2)
          | (refine app_lit rfl _ _ rfl w.heap.size u5 _ _ rfl (HO.out.alloc _) wr.heap.size 1 1 #[.int .u8 92] rfl (heap_alloc_new wr _) rfl (by simp [Value.oneCell']) (by omega) (by omega) (by simp; omega) ?_; intro v1 w1 hown1 hgr1; have hb1 : Below w.heap.size wr w1 := ((Below.refl _ wr).alloc (by omega) _).grown hgr1 (by simp; omega) (fun q hq => (World.ownsRow.lt HO.out q hq).1); have hs1 := hb1.size; have HO1 := Lib.hid hown1; clear hown1 hgr1))
        go_roundw
        case rel => exact EInv.next (by omega) HO2.out (by rw [HES.out]; simp [Lib.byteCells]) ((HB.out.trans hb1).trans hb2)
        case measure => simp [intOf]; omega
      by_cases c34 : c = 34
      · subst c34
        have he : escB 4 34 = [92, 34] := by decide
        rw [he] at HES
        clear he
        go_wp2_with (at_builtin; first
          | (refine app_lit rfl _ _ rfl w.heap.size v1 _ _ rfl (HO1.out.alloc _) w1.heap.size 1 1 #[.int .u8 34] rfl (heap_alloc_new w1 _) rfl (by simp [Value.oneCell']) (by omega) (by omega) (by simp; omega) ?_; intro v2 w2 hown2 hgr2; have hb2 : Below w.heap.size w1 w2 := ((Below.refl _ w1).alloc (by omega) _).grown hgr2 (by simp; omega) (fun q hq => (World.ownsRow.lt HO1.out q hq).1); have hs2 := hb2.size; have HO2 := Lib.hid hown2; clear hown2 hgr2)
          | (refine app_lit rfl _ _ rfl w.heap.size u5 _ _ rfl (HO.out.alloc _) wr.heap.size 1 1 #[.int .u8 92] rfl (heap_alloc_new wr _) rfl (by simp [Value.oneCell']) (by omega) (by omega) (by simp; omega) ?_; intro v1 w1 hown1 hgr1; have hb1 : Below w.heap.size wr w1 := ((Below.refl _ wr).alloc (by omega) _).grown hgr1 (by simp; omega) (fun q hq => (World.ownsRow.lt HO.out q hq).1); have hs1 := hb1.size; have HO1 := Lib.hid hown1; clear hown1 hgr1))
        go_roundw
        case rel => exact EInv.next (by omega) HO2.out (by rw [HES.out]; simp [Lib.byteCells]) ((HB.out.trans hb1).trans hb2)
        case measure => simp [intOf]; omega
      have he : escB 4 c = [c] := by
        have : tab 4 c = 0 := by
          unfold tab
          rw [if_neg]
          simp [escs, c10, c13, c9, c92, c34]
        simp [escB, this]
      rw [he] at HES
      clear he
      have n10 : ((c.toNat : Int) == 10) = false := by
        rw [beq_eq_false_iff_ne]
        intro e
        exact c10 (UInt8.toNat_inj.1 (by show c.toNat = 10; omega))
      have n13 : ((c.toNat : Int) == 13) = false := by
        rw [beq_eq_false_iff_ne]
        intro e
        exact c13 (UInt8.toNat_inj.1 (by show c.toNat = 13; omega))
      have n9 : ((c.toNat : Int) == 9) = false := by
        rw [beq_eq_false_iff_ne]
        intro e
        exact c9 (UInt8.toNat_inj.1 (by show c.toNat = 9; omega))
      have n92 : ((c.toNat : Int) == 92) = false := by
        rw [beq_eq_false_iff_ne]
        intro e
        exact c92 (UInt8.toNat_inj.1 (by show c.toNat = 92; omega))
      have n34 : ((c.toNat : Int) == 34) = false := by
        rw [beq_eq_false_iff_ne]
        intro e
        exact c34 (UInt8.toNat_inj.1 (by show c.toNat = 34; omega))
      clear c10 c13 c9 c92 c34
      go_wp2_with (at_builtin; first
        | (refine app_lit rfl _ _ rfl w.heap.size u5 _ _ rfl (HO.out.alloc _) wr.heap.size 1 1 #[.int .u8 c.toNat] rfl (heap_alloc_new wr _) rfl (by simp [Value.oneCell']) (by omega) (by omega) (by simp; omega) ?_; intro v1 w1 hown1 hgr1; have hb1 : Below w.heap.size wr w1 := ((Below.refl _ wr).alloc (by omega) _).grown hgr1 (by simp; omega) (fun q hq => (World.ownsRow.lt HO.out q hq).1); have hs1 := hb1.size; have HO1 := Lib.hid hown1; clear hown1 hgr1))
      go_roundw
      case rel => exact EInv.next (by omega) HO1.out (by rw [HES.out]; simp [Lib.byteCells]) (HB.out.trans hb1)
      case measure => simp [intOf]; omega
    · have he : j = s.size := by omega
      have hall : s.data.toList.take j = s.data.toList := by rw [he]; exact List.take_of_length_le (by simp)
      rw [hall] at HO
      have hcv := own_str HO.out
      have hjl : ¬ ((j : Int) < (s.size : Int)) := by omega
      clear HO hall hle hle2
      go_wp2
      go_ret
      exact ⟨rfl, HB.out⟩

theorem spec13 (k : Int) (h0 : 0 ≤ k) (h4 : k ≤ 4) (s : ByteArray) (hs : s.size ≤ 5000) (w : World) :
    Calls Tryd.prog 13 #[.int .i64 k, .string s] w fun e w' => e = .returned (.string (escS k s)) ∧ Below w.heap.size w w' := by
  obtain rfl | rfl | rfl | rfl | rfl : k = 0 ∨ k = 1 ∨ k = 2 ∨ k = 3 ∨ k = 4 := by omega
  · exact spec13_0 s hs w
  · exact spec13_1 s hs w
  · exact spec13_2 s hs w
  · exact spec13_3 s hs w
  · exact spec13_4 s hs w
end Go.Proofs.YtkibdomfiodilaaDoor.esc
