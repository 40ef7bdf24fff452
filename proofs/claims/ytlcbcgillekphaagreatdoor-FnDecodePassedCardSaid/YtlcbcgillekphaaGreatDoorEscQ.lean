/-
  Proved: what strconv.QuoteRune and strings.TrimPrefix give of the characters that the escapers escape.
  Conditions: each contract's own.
-/
import Derived.Test.YtlcbcgillekphaaGreatDoorGa
import Derived.Outline
import Derived.WalkLawsBesides
import Derived.WalkSpells
import Derived.Lib.Hide
import Derived.Lib.AppendStr
import Derived.BigQuiet
import Derived.Deep.QuietTactic
import Derived.Deep.RegionHeld3
import Derived.LoopN
import Derived.Lib.OthersKept
namespace Go.Proofs.YtlcbcgillekphaaGreatDoor.esc
open Go.RowKit Mem
set_option linter.unusedVariables false

theorem info_u8 : (Tryz.prog.info? 5).map (fun i => (i.zero, i.size, i.bytes)) = some (some (.int .u8 0), 1, 1) := by kernel_rfl
/-- append of a small literal, at the operation. -/
theorem app_lit {w : World} {ops : Array Oper} {rest : List Oper} {o : Oper} {a : Act} {Q : Exit → Act → World → Prop} (hgd : o.guard = none) (s x : Operand)
    (ho : o.op = .call { callee := .builtin .append, args := #[s, x], argTypes := #[51, 51] })
    (B : Nat) (v : Value) (n : Nat) (xs : List Value) (hs : a.eval s = v) (hown : w.ownsRow B 5 1 v n xs)
    (A m c : Nat) (news : Array Value) (hx : a.eval x = .slice (some ⟨A, 0, none⟩) m c) (hb : w.heap[A]? = some (.cells news 5 (0, 0))) (hl : news.size = m) (h1 : ∀ u ∈ news.toList, u.oneCell' = true)
    (hm : 0 < m) (h63 : n + m ≤ 140737488355328) (hbase : B ≤ w.heap.size)
    (h : ∀ v' w', w'.ownsRow B 5 1 v' (n + m) (xs ++ news.toList) → w.grownBy w' v.ownBlock → wpList Tryz.prog ops Q rest (a.put o.dst v') w') : wpList Tryz.prog ops Q (o :: rest) a w := by
  obtain ⟨i0, hi0, hz0, hz1, hz2'⟩ := info_parts info_u8
  exact wpList_append_lies w hgd s x 51 ho B 5 i0 (.int .u8 0) 1 1 Tryz.underlying51 hi0 hz0 hz1 hz2' rfl (by omega) v n xs hs hown ⟨A, 0, none⟩ m c news.toList hx (by simpa using hl)
    (World.news_of_block hb) h1 hm (by unfold maxLen; omega) (by omega) hbase _ rfl (fun g cap w' h2 h3 _ _ => h _ w' h2 h3)

theorem app_str {w : World} {ops : Array Oper} {rest : List Oper} {o : Oper} {a : Act} {Q : Exit → Act → World → Prop} (hgd : o.guard = none) (s x : Operand)
    (ho : o.op = .call { callee := .builtin .append, args := #[s, x], argTypes := #[51, 9] })
    (B : Nat) (v : Value) (n : Nat) (xs : List Value) (hs : a.eval s = v) (hown : w.ownsRow B 5 1 v n xs)
    (t : ByteArray) (hx : a.eval x = .string t) (h63 : n + t.size ≤ 140737488355328) (hbase : B ≤ w.heap.size)
    (h : ∀ v' w', w'.ownsRow B 5 1 v' (n + t.size) (xs ++ Lib.strCells t) → w.grownBy w' v.ownBlock → wpList Tryz.prog ops Q rest (a.put o.dst v') w') : wpList Tryz.prog ops Q (o :: rest) a w := by
  obtain ⟨i0, hi0, hz0, hz1, hz2'⟩ := info_parts info_u8
  exact Lib.wpList_append_own_string w hgd s x 51 9 ho B 5 i0 Tryz.underlying51 Tryz.underlying9 hi0 hz0 hz1 hz2' v n xs hs hown t hx (by unfold maxLen; omega) h63 hbase (fun v' w' h2 h3 _ => h v' w' h2 h3)

theorem valid (c : Int) (h0 : 0 ≤ c) (h1 : c < 128) (w : World) :
    Calls Tryz.prog 104 #[.int .i32 c] w fun e w' => e = .returned (.bool true) ∧ w = w' := by
  go_enter Tryz.func104, Tryz.ntmps104
  go_wp2
  go_ret
  exact ⟨rfl, rfl⟩
theorem printable (c : Int) (h0 : 32 ≤ c) (h1 : c ≤ 126) (w : World) :
    Calls Tryz.prog 106 #[.int .i32 c] w fun e w' => e = .returned (.bool true) ∧ w = w' := by
  go_enter Tryz.func106, Tryz.ntmps106
  go_wp2
  go_ret
  exact ⟨rfl, rfl⟩
theorem control (c : Int) (h0 : 0 ≤ c) (h1 : c < 32) (w : World) :
    Calls Tryz.prog 106 #[.int .i32 c] w fun e w' => e = .returned (.bool false) ∧ w = w' := by
  go_enter Tryz.func106, Tryz.ntmps106
  go_wp2
  go_ret
  exact ⟨rfl, rfl⟩

theorem rune84 (B : Nat) (v : Value) (n : Nat) (xs : List Value) (c : Int) (h0 : 0 ≤ c) (h1 : c < 128) (w : World) (hown : w.ownsRow B 5 1 v n xs) (hn : n ≤ 1000) (hB : B ≤ w.heap.size) :
    Calls Tryz.prog 108 #[v, .int .i32 c] w fun e w' => ∃ v', e = .returned v' ∧ w'.ownsRow B 5 1 v' (n + 1) (xs ++ [.int .u8 c]) ∧ Below B w w' := by
  have hw : IntKind.u32.wrap c = c := by rw [IntKind.wrap_u32]; omega
  have hw8 : IntKind.u8.wrap c = c := by rw [IntKind.wrap_u8]; omega
  have HO := Lib.hid hown
  clear hown
  go_enter Tryz.func108, Tryz.ntmps108
  go_wp2_with (at_builtin; refine app_lit rfl _ _ rfl B v n xs rfl (HO.out.alloc _) w.heap.size 1 1 #[.int .u8 c] rfl (heap_alloc_new w _) rfl (by simp [Value.oneCell']) (by omega) (by omega) (by simp; omega) ?_; intro v' w' hown' hgr)
  go_ret
  exact ⟨_, rfl, hown', ((Below.refl B w).alloc hB _).grown hgr (by simp; omega) (fun k hk => (World.ownsRow.lt HO.out k hk).1)⟩

abbrev aer (v : Value) (c : Int) : Array Value := #[v, .int .i32 c, .int .u8 39, .bool false, .bool false]
theorem aer_plain (B : Nat) (v : Value) (n : Nat) (xs : List Value) (c : Int) (h0 : 32 ≤ c) (h1 : c ≤ 126) (h39 : ¬ c = 39) (h92 : ¬ c = 92) (w : World) (hown : w.ownsRow B 5 1 v n xs) (hn : n ≤ 1000) (hB : B ≤ w.heap.size) :
    Calls Tryz.prog 105 (aer v c) w fun e w' => ∃ v', e = .returned v' ∧ w'.ownsRow B 5 1 v' (n + 1) (xs ++ [.int .u8 c]) ∧ Below B w w' := by
  have HO := Lib.hid hown
  have n39 : (c == 39) = false := beq_eq_false_iff_ne.2 h39
  have n92 : (c == 92) = false := beq_eq_false_iff_ne.2 h92
  clear hown h39 h92
  go_enter Tryz.func105, Tryz.ntmps105
  go_wp2_with fail
  refine (printable c h0 h1 _).mono ?_
  rintro e w1 ⟨rfl, rfl⟩
  go_wp2_with fail
  refine (rune84 B v n xs c (by omega) (by omega) _ HO.out hn hB).mono ?_
  rintro e w1 ⟨v', rfl, hown', hbe⟩
  have HO' := Lib.hid hown'
  clear hown'
  go_wp2
  go_ret
  exact ⟨_, rfl, HO'.out, hbe⟩
set_option maxRecDepth 100000 in
theorem aer_back (B : Nat) (v : Value) (n : Nat) (xs : List Value) (w : World) (hown : w.ownsRow B 5 1 v n xs) (hn : n ≤ 1000) (hB : B ≤ w.heap.size) :
    Calls Tryz.prog 105 (aer v 92) w fun e w' => ∃ v', e = .returned v' ∧ w'.ownsRow B 5 1 v' (n + 1 + 1) (xs ++ [.int .u8 92] ++ [.int .u8 92]) ∧ Below B w w' := by
  have HO := Lib.hid hown
  clear hown
  go_enter Tryz.func105, Tryz.ntmps105
  go_wp2_with (at_builtin; (first
    | (refine app_lit rfl _ _ rfl B v1 (n + 1) _ rfl (HO1.out.alloc _) w1.heap.size 1 1 #[.int .u8 92] rfl (heap_alloc_new w1 _) rfl (by simp [Value.oneCell']) (by omega) (by omega) (by simp; omega) ?_
       intro v2 w2 hown2 hgr2
       have hb2 : Below B w1 w2 := ((Below.refl B w1).alloc (by omega) _).grown hgr2 (by simp; omega) (fun k hk => (World.ownsRow.lt HO1.out k hk).1)
       have HO2 := Lib.hid hown2
       clear hown2 hgr2)
    | (refine app_lit rfl _ _ rfl B v n xs rfl (HO.out.alloc _) w.heap.size 1 1 #[.int .u8 92] rfl (heap_alloc_new w _) rfl (by simp [Value.oneCell']) (by omega) (by omega) (by simp; omega) ?_
       intro v1 w1 hown1 hgr1
       have hb1 : Below B w w1 := ((Below.refl B w).alloc hB _).grown hgr1 (by simp; omega) (fun k hk => (World.ownsRow.lt HO.out k hk).1)
       have hs1 := hb1.size
       have HO1 := Lib.hid hown1
       clear hown1 hgr1)))
  go_ret
  refine ⟨v2, rfl, ?_, hb1.trans hb2⟩
  have h := HO2.out
  simp only [List.append_assoc] at h ⊢
  exact h
/-- What stands behind the backslash. -/
def ctl (c : Int) : UInt8 := if c = 10 then 110 else if c = 13 then 114 else 116
set_option maxRecDepth 100000 in
theorem aer_ctl (B : Nat) (v : Value) (n : Nat) (xs : List Value) (c : Int) (hc : c = 10 ∨ c = 13 ∨ c = 9) (w : World) (hown : w.ownsRow B 5 1 v n xs) (hn : n ≤ 1000) (hB : B ≤ w.heap.size) :
    Calls Tryz.prog 105 (aer v c) w fun e w' => ∃ v', e = .returned v' ∧ w'.ownsRow B 5 1 v' (n + 2) (xs ++ Lib.strCells ⟨#[92, ctl c]⟩) ∧ Below B w w' := by
  have HO := Lib.hid hown
  clear hown
  rcases hc with rfl | rfl | rfl
  all_goals
    go_enter Tryz.func105, Tryz.ntmps105
    go_wp2_with fail
    refine (control _ (by decide) (by decide) _).mono ?_
    rintro e w1 ⟨rfl, rfl⟩
    go_wp2_with (at_builtin; refine app_str rfl _ _ rfl B v n xs rfl HO.out _ rfl (by show n + 2 ≤ _; omega) hB ?_; intro v' w' hown' hgr)
    have HO' := Lib.hid hown'
    clear hown'
    go_wp2
    go_ret
    exact ⟨_, rfl, HO'.out, (Below.refl B w).grown hgr hB (fun k hk => (World.ownsRow.lt HO.out k hk).1)⟩

/-- The characters that are escaped, and how each is quoted (between the quotes). -/
def quoted (c : Int) : List UInt8 := if c = 92 then [92, 92] else if c = 10 ∨ c = 13 ∨ c = 9 then [92, ctl c] else [UInt8.ofNat c.toNat]
def Known (c : Int) : Prop := c = 44 ∨ c = 32 ∨ c = 61 ∨ c = 34 ∨ c = 92 ∨ c = 10 ∨ c = 13 ∨ c = 9
theorem aer_all (B : Nat) (v : Value) (n : Nat) (xs : List Value) (c : Int) (hc : Known c) (w : World) (hown : w.ownsRow B 5 1 v n xs) (hn : n ≤ 1000) (hB : B ≤ w.heap.size) :
    Calls Tryz.prog 105 (aer v c) w fun e w' => ∃ v', e = .returned v' ∧ w'.ownsRow B 5 1 v' (n + (quoted c).length) (xs ++ Lib.byteCells (quoted c)) ∧ Below B w w' := by
  rcases hc with rfl | rfl | rfl | rfl | rfl | rfl | rfl | rfl
  · exact aer_plain B v n xs _ (by decide) (by decide) (by decide) (by decide) w hown hn hB
  · exact aer_plain B v n xs _ (by decide) (by decide) (by decide) (by decide) w hown hn hB
  · exact aer_plain B v n xs _ (by decide) (by decide) (by decide) (by decide) w hown hn hB
  · exact aer_plain B v n xs _ (by decide) (by decide) (by decide) (by decide) w hown hn hB
  · refine (aer_back B v n xs w hown hn hB).mono ?_
    rintro e w' ⟨v', h1, h2, h3⟩
    exact ⟨v', h1, by rw [List.append_assoc] at h2; exact h2, h3⟩
  · exact aer_ctl B v n xs _ (by decide) w hown hn hB
  · exact aer_ctl B v n xs _ (by decide) w hown hn hB
  · exact aer_ctl B v n xs _ (by decide) w hown hn hB

set_option maxRecDepth 100000 in
theorem appended86 (c : Int) (hc : Known c) (w : World) :
    Calls Tryz.prog 102 #[.slice none 0 0, .int .i32 c, .int .u8 39, .bool false, .bool false] w fun e w' =>
      ∃ v', e = .returned v' ∧ w'.ownsRow w.heap.size 5 1 v' (0 + 1 + (quoted c).length + 1) (([] ++ [.int .u8 39]) ++ Lib.byteCells (quoted c) ++ [.int .u8 39]) ∧ Below w.heap.size w w' := by
  have hl : (quoted c).length ≤ 2 := by rcases hc with rfl | rfl | rfl | rfl | rfl | rfl | rfl | rfl <;> decide
  have h0 : 0 ≤ c ∧ c < 128 := by unfold Known at hc; omega
  have HC := Lib.hid hc
  clear hc
  go_enter Tryz.func102, Tryz.ntmps102
  go_wp2_with (first
    | (at_builtin; first
      | (refine app_lit rfl _ _ rfl w.heap.size v2 _ _ rfl (HO2.out.alloc _) w2.heap.size 1 1 #[.int .u8 39] rfl (heap_alloc_new w2 _) rfl (by simp [Value.oneCell']) (by omega) (by omega) (by simp; omega) ?_
         intro v3 w3 hown3 hgr3
         have hb3 : Below w.heap.size w2 w3 := ((Below.refl _ w2).alloc (by omega) _).grown hgr3 (by simp; omega) (fun k hk => (World.ownsRow.lt HO2.out k hk).1)
         have HO3 := Lib.hid hown3
         clear hown3 hgr3)
      | (refine app_lit rfl _ _ rfl w.heap.size (.slice none 0 0) 0 [] rfl (World.ownsRow_nil _ _ _ _) w.heap.size 1 1 #[.int .u8 39] rfl (heap_alloc_new w _) rfl (by simp [Value.oneCell']) (by omega) (by omega) (by simp) ?_
         intro v1 w1 hown1 hgr1
         have hb1 : Below w.heap.size w w1 := ((Below.refl _ w).alloc (Nat.le_refl _) _).grown hgr1 (by simp) (fun k hk => by simp [Value.ownBlock] at hk)
         have hs1 := hb1.size
         have HO1 := Lib.hid hown1
         clear hown1 hgr1))
    | (go_at_call 104; refine (valid c h0.1 h0.2 _).mono ?_; rintro e w' ⟨rfl, rfl⟩)
    | (go_at_call 105; refine (aer_all w.heap.size v1 _ _ c HC.out _ HO1.out (by omega) hs1).mono ?_; rintro e w2 ⟨v2, rfl, hown2, hb2⟩; have hs2 := hb2.size; have HO2 := Lib.hid hown2; clear hown2))
  go_ret
  refine ⟨v3, rfl, ?_, (hb1.trans hb2).trans hb3⟩
  have h := HO3.out
  simp only [List.append_assoc, List.nil_append] at h ⊢
  exact h

/-- The quoted rune as a string. -/
def quotedStr (c : Int) : ByteArray := ⟨([39] ++ quoted c ++ [39]).toArray⟩
theorem quote70 (c : Int) (hc : Known c) (w : World) :
    Calls Tryz.prog 95 #[.int .i32 c] w fun e w' => e = .returned (.string (quotedStr c)) ∧ Below w.heap.size w w' := by
  have HC := Lib.hid hc
  clear hc
  go_enter Tryz.func95, Tryz.ntmps95
  go_wp2_with (go_at_call 100; go_in)
  refine (appended86 c HC.out _).mono ?_
  rintro e w1 ⟨v', rfl, hown, hb⟩
  have hsz : (quotedStr c).size = 0 + 1 + (quoted c).length + 1 := by simp [quotedStr, ByteArray.size]; omega
  rw [← hsz] at hown
  obtain ⟨g, cap, rfl, -, -, -, hcell⟩ := own_cells hown (by rw [hsz]; omega)
  have hconv := conv_str w1 51 5 9 Tryz.underlying51 Tryz.underlying5 Tryz.underlying9 g 0 cap (quotedStr c) (fun j hj => by
    rw [Nat.zero_add, hcell j hj]
    have hj' : j < ([39] ++ quoted c ++ [39]).length := by simpa [quotedStr, ByteArray.size] using hj
    have e1 : (([] ++ [Value.int .u8 39]) ++ Lib.byteCells (quoted c) ++ [Value.int .u8 39]) = Lib.byteCells ([39] ++ quoted c ++ [39]) := by simp [Lib.byteCells]
    rw [e1]
    simp only [Lib.byteCells, List.getElem?_map, quotedStr]
    rw [List.getElem?_eq_getElem hj']
    simp only [List.getD, List.getElem?_eq_getElem hj', Option.map_some, Option.getD_some])
  clear hown hcell hsz
  go_wp2
  go_ret
  exact ⟨rfl, hb⟩
end Go.Proofs.YtlcbcgillekphaaGreatDoor.esc
