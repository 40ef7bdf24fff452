/-
  Proved: the contracts of spec.Digits and of (StreamEntryID).bytes: decimal numerals.
  Conditions: numbers of 64 bits; the table of the powers of ten reads as its initialiser lays it.
-/
import Derived.Test.YtdlimgghcpbkcaaDoorBuf
import Derived.Test.YtdlimgghcpbkcaaDoorShelf
import Derived.Outline
import Derived.WalkLawsBesides
import Derived.WalkSpells
import Derived.Lib.Hide
import Derived.BigQuiet
import Derived.Handy
import Derived.Deep.QuietTactic
import Derived.Deep.RegionHeld3
import Derived.Deep.RegionWith
import Derived.Deep.RegionLaw
import Derived.Maps.AppendAt
namespace Go.Proofs.YtdlimgghcpbkcaaDoor.ids
open Go.RowKit Mem
set_option linter.unusedVariables false

theorem nil_str (w : World) : (convert 45 9 (.slice none 0 0)).run Tryd.prog w = .ok (.string ⟨#[]⟩) w := by kernel_rfl
theorem own_str {w : World} {B : Nat} {v : Value} {l : List UInt8} (h : w.ownsRow B 5 1 v l.length (Lib.byteCells l)) : (convert 45 9 v).run Tryd.prog w = .ok (.string ⟨l.toArray⟩) w := by
  rcases h.2 with ⟨rfl, h0⟩ | ⟨g, cap, cur, rfl, -, hg, hle, -, -, htk⟩
  · have : l = [] := List.eq_nil_of_length_eq_zero h0
    subst this
    exact nil_str w
  · have hs : (⟨l.toArray⟩ : ByteArray).size = l.length := by simp [ByteArray.size]
    have hc := conv_str w 45 5 9 Tryd.underlying45 Tryd.underlying5 Tryd.underlying9 g 0 cap ⟨l.toArray⟩ (fun j hj => by
      have hj' : j < l.length := by rw [hs] at hj; exact hj
      rw [Nat.zero_add, cell_of_row _ _ j _ _ _ hg]
      have hbl : (Lib.byteCells l).length = l.length := by simp [Lib.byteCells]
      rw [Nat.mul_one] at htk
      have : cur[j]? = (Lib.byteCells l)[j]? := by rw [← htk]; simp [hj']
      rw [this]
      simp only [Lib.byteCells, List.getElem?_map, List.getElem?_eq_getElem hj', Option.map_some, List.getD, Option.getD_some])
    rw [hs] at hc
    exact hc

/-- A row's bytes ahead of another one's. -/
theorem app_front {w : World} {ops : Array Oper} {rest : List Oper} {o : Oper} {a : Act} {Q : Exit → Act → World → Prop} (hgd : o.guard = none) (s x : Operand)
    (ho : o.op = .call { callee := .builtin .append, args := #[s, x], argTypes := #[45, 45] })
    (B A : Nat) (d : Int) (hs : a.eval s = .slice (some ⟨A, 0, none⟩) 1 1) (hA : w.heap[A]? = some (.cells #[.int .u8 d] 5 (0, 0))) (hBA : B ≤ A)
    (v : Value) (n : Nat) (xs : List Value) (hx : a.eval x = v) (hown : w.ownsRow B 5 1 v n xs) (hn : 0 < n) (h1 : ∀ u ∈ xs, u.oneCell' = true) (h63 : n ≤ 1000) (hbase : B ≤ w.heap.size)
    (h : ∀ v' w', w'.ownsRow B 5 1 v' (1 + n) ([.int .u8 d] ++ xs) → Below B w w' → wpList Tryd.prog ops Q rest (a.put o.dst v') w') : wpList Tryd.prog ops Q (o :: rest) a w := by
  obtain ⟨i, hi, hz, hz1, hz2⟩ := info_parts info_byte
  rcases hown.2 with ⟨_, h0⟩ | ⟨g, cap, cur, rfl, hbg, hg, hle, hm, hcs, htk⟩
  · omega
  have ho1 : w.ownsRow B 5 1 (.slice (some ⟨A, 0, none⟩) 1 1) 1 [.int .u8 d] := ⟨rfl, .inr ⟨A, 1, #[.int .u8 d], rfl, hBA, hA, Nat.le_refl _, by unfold maxLen; omega, rfl, rfl⟩⟩
  obtain ⟨v', w', hr, hown', hgr, _, _⟩ := run_append_own_at (P := Tryd.prog) w B 45 o.type 5 i (.int .u8 0) 1 1 Tryd.underlying45 hi hz hz1 hz2 rfl (by omega) _ 1 _ ho1 ⟨g, 0, none⟩ n cap xs (by simpa using hown.1)
    (hown.cells rfl) h1 (by unfold maxLen; omega) (by omega) hbase
  exact app_step hgd s x _ _ ho _ _ _ hs hx hr (h v' w' hown' ((Below.refl B w).grown hgr hbase (fun k hk => by simp [Value.ownBlock] at hk; omega)))

theorem dec_step (u : Nat) (h : 10 ≤ u) : Lib.decDigits u = Lib.decDigits (u / 10) ++ [UInt8.ofNat (48 + u % 10)] := by
  conv => lhs; rw [Lib.decDigits]
  rw [dif_neg (by omega)]
theorem dec_one (u : Nat) (h : u < 10) : Lib.decDigits u = [UInt8.ofNat (48 + u)] := by
  rw [Lib.decDigits, dif_pos h]
/-- The digits that are still to come. -/
def pre (u : Nat) : List UInt8 := if u = 0 then [] else Lib.decDigits u
theorem pre_step (u : Nat) (h : 0 < u) : pre u = pre (u / 10) ++ [UInt8.ofNat (48 + u % 10)] := by
  unfold pre
  rw [if_neg (by omega)]
  by_cases h10 : u < 10
  · rw [dec_one u h10, if_pos (by omega), Nat.mod_eq_of_lt h10]
    rfl
  · rw [dec_step u (by omega), if_neg (by omega)]
theorem dec_pre (u : Nat) : Lib.decDigits u = pre (u / 10) ++ [UInt8.ofNat (48 + u % 10)] := by
  by_cases h0 : u = 0
  · subst h0
    rw [dec_one 0 (by omega)]
    rfl
  · rw [← pre_step u (by omega)]
    simp [pre, h0]
theorem pre_len (u : Nat) : ∀ k, u < 10 ^ k → (pre u).length ≤ k := by
  intro k
  induction k generalizing u with
  | zero => intro h; have : u = 0 := by simpa using h
            subst this; simp [pre]
  | succ k ih =>
    intro h
    by_cases h0 : u = 0
    · subst h0; simp [pre]
    · rw [pre_step u (by omega), List.length_append]
      have := ih (u / 10) (by rw [Nat.pow_succ] at h; omega)
      simp
      omega

/-- What the loop keeps. -/
def DInv (w : World) (u0 : Nat) (t b : Value) (wr : World) : Prop :=
  ∃ (u : Nat) (l : List UInt8), t = .int .u64 u ∧ u < 10 ^ 20 ∧ Lib.decDigits u0 = pre u ++ l ∧ 0 < l.length ∧ wr.ownsRow w.heap.size 5 1 b l.length (Lib.byteCells l) ∧ Below w.heap.size w wr

set_option maxHeartbeats 4000000 in
theorem digits20 (u0 : Nat) (hu : u0 < 18446744073709551616) (w : World) :
    Calls Tryd.prog 20 #[.int .u64 u0] w fun e w' => e = .returned (.string ⟨(Lib.decDigits u0).toArray⟩) ∧ Below w.heap.size w w' := by
  have hr : (u0 : Int).tmod 10 = ((u0 % 10 : Nat) : Int) := by rw [Int.tmod_eq_emod_of_nonneg (by omega)]; omega
  have hq : (u0 : Int).tdiv 10 = ((u0 / 10 : Nat) : Int) := by rw [Int.tdiv_eq_ediv_of_nonneg (by omega)]; omega
  have hd := dec_pre u0
  have hm : u0 % 10 < 10 := Nat.mod_lt _ (by omega)
  have HD := Lib.hid hd
  clear hd
  go_enter Tryd.func20, Tryd.ntmps20
  go_wp2_with fail
  go_loopw [0, 3] (fun t b wr => DInv w u0 t b wr) (fun t _ _ => (intOf t).toNat)
  case atStart =>
    refine ⟨u0 / 10, [UInt8.ofNat (48 + u0 % 10)], by simp, by omega, HD.out, by simp, ?_, (Below.refl _ w).alloc (Nat.le_refl _) _⟩
    have hh := heap_alloc_new w (.cells #[.int .u8 (48 + (u0 : Int) % 10)] 5)
    refine ⟨by simp [Lib.byteCells], .inr ⟨w.heap.size, 1, _, rfl, Nat.le_refl _, hh, Nat.le_refl _, by unfold maxLen; omega, rfl, ?_⟩⟩
    simp [Lib.byteCells]
    omega
  case round =>
    obtain ⟨u, l, rfl, hu2, hdec, hl0, hown, hbe⟩ := hrel
    have hsz := hbe.size
    have hll : l.length ≤ 20 := by
      have h1 : (Lib.decDigits u0).length ≤ 20 := by
        by_cases h0 : u0 = 0
        · subst h0; rw [dec_one 0 (by omega)]; simp
        · have := pre_len u0 20 (by omega)
          simpa [pre, h0] using this
      rw [hdec, List.length_append] at h1
      omega
    have HO := Lib.hid hown
    have HB := Lib.hid hbe
    have HDE := Lib.hid hdec
    clear hown hbe hdec HD hr hq hm
    by_cases hpos : 0 < u
    · have hp : (0 : Int) < (u : Int) := by omega
      have hps := pre_step u hpos
      have HPS := Lib.hid hps
      have hm : u % 10 < 10 := Nat.mod_lt _ (by omega)
      clear hps
      have hc : (UInt8.ofNat (48 + u % 10)).toNat = 48 + u % 10 := by simp; omega
      have hbl : Lib.byteCells ([UInt8.ofNat (48 + u % 10)] ++ l) = [.int .u8 (48 + (u : Int) % 10)] ++ Lib.byteCells l := by
        simp only [Lib.byteCells, List.map_append, List.map_cons, List.map_nil, hc]
        simp
      have HBL := Lib.hid hbl
      clear hbl hc
      go_wp2_with (at_builtin; refine app_front rfl _ _ rfl w.heap.size wr.heap.size (48 + (u : Int) % 10) rfl (heap_alloc_new wr _) hsz u3 l.length (Lib.byteCells l) rfl (HO.out.alloc _) hl0 (Lib.byteCells_one l) (by omega) (by simp; omega) ?_; intro v' w' hown' hb')
      have HO' := Lib.hid hown'
      have HB' := Lib.hid (((HB.out.alloc hsz _).trans hb'))
      clear hown' hb'
      go_roundw
      case rel =>
        refine ⟨u / 10, [UInt8.ofNat (48 + u % 10)] ++ l, by simp, by omega, by rw [HDE.out, HPS.out]; simp, by simp, ?_, HB'.out⟩
        rw [HBL.out, List.length_append]
        exact HO'.out
      case measure => simp [intOf]; omega
    · have h0 : u = 0 := by omega
      subst h0
      have hl : Lib.decDigits u0 = l := by rw [HDE.out]; simp [pre]
      subst hl
      have hcv := own_str HO.out
      clear HDE
      go_wp2
      go_ret
      exact ⟨rfl, HB.out⟩

/-- The table of the powers of ten. -/
def Pow (w : World) : Prop := Lib.TabIs Tryd.prog w "internal/strconv.uint64pow10" .u64 Lib.pow10Tab
theorem Pow.but {S : List Nat} {w w' : World} (h : Pow w) (hb : But S w w') (hn : ∀ g, Tryd.prog.globalNamed "internal/strconv.uint64pow10" = some g → g ∉ S) : Pow w' := by
  unfold Pow Lib.TabIs World.var? at *
  cases hg : Tryd.prog.globalNamed "internal/strconv.uint64pow10" with
  | none => simp [hg] at h
  | some g =>
    simp only [hg, Option.bind_some] at h ⊢
    have hlt : g < w.heap.size := by
      rcases Nat.lt_or_ge g w.heap.size with h' | h'
      · exact h'
      · simp [Array.getElem?_eq_none h'] at h
    rw [hb.block g hlt (hn g hg)]
    exact h
theorem Pow.below {w w' : World} (h : Pow w) (hb : Below w.heap.size w w') : Pow w' := h.but (But.ofBelow (S := []) hb) (fun g _ => by simp)

theorem dec_len (u : Nat) (hu : u < 18446744073709551616) : (Lib.decDigits u).length ≤ 20 := by
  by_cases h0 : u = 0
  · subst h0; rw [dec_one 0 (by omega)]; simp
  · have := pre_len u 20 (by omega)
    simpa [pre, h0] using this

/-- (StreamEntryID).bytes. -/
def idText (t q : Nat) : List UInt8 := Lib.decDigits t ++ [45] ++ Lib.decDigits q
theorem app_lit {w : World} {ops : Array Oper} {rest : List Oper} {o : Oper} {a : Act} {Q : Exit → Act → World → Prop} (hgd : o.guard = none) (s x : Operand)
    (ho : o.op = .call { callee := .builtin .append, args := #[s, x], argTypes := #[45, 45] })
    (B : Nat) (v : Value) (n : Nat) (xs : List Value) (hs : a.eval s = v) (hown : w.ownsRow B 5 1 v n xs)
    (A m c : Nat) (news : Array Value) (hx : a.eval x = .slice (some ⟨A, 0, none⟩) m c) (hb : w.heap[A]? = some (.cells news 5 (0, 0))) (hl : news.size = m) (h1 : ∀ u ∈ news.toList, u.oneCell' = true)
    (hm : 0 < m) (h63 : n + m ≤ 140737488355328) (hbase : B ≤ w.heap.size)
    (h : ∀ v' w', w'.ownsRow B 5 1 v' (n + m) (xs ++ news.toList) → w.grownBy w' v.ownBlock → wpList Tryd.prog ops Q rest (a.put o.dst v') w') : wpList Tryd.prog ops Q (o :: rest) a w := by
  obtain ⟨i0, hi0, hz0, hz1, hz2'⟩ := info_parts info_byte
  exact wpList_append_lies w hgd s x 45 ho B 5 i0 (.int .u8 0) 1 1 Tryd.underlying45 hi0 hz0 hz1 hz2' rfl (by omega) v n xs hs hown ⟨A, 0, none⟩ m c news.toList hx (by simpa using hl)
    (World.news_of_block hb) h1 hm (by unfold maxLen; omega) (by omega) hbase _ rfl (fun g cap w' h2 h3 _ _ => h _ w' h2 h3)

theorem uint42 (B n u : Nat) (hu : u < 18446744073709551616) (v : Value) (xs : List Value) (w : World) (hown : w.ownsRow B 5 1 v n xs) (hB : B ≤ w.heap.size) (hn : n ≤ 1000) (hp : Pow w) :
    Calls Tryd.prog 42 #[v, .int .u64 u, .int .i64 10] w fun e w' => ∃ v', e = .returned v' ∧ w'.ownsRow B 5 1 v' (n + (Lib.decDigits u).length) (xs ++ Lib.byteCells (Lib.decDigits u)) ∧ Below B w w' := by
  have HC := Lib.hid (Tryd.internal_strconv_AppendUint_10 B n u hu v xs w hown hB (by omega) hp)
  clear hown hp
  go_enter Tryd.func42, Tryd.ntmps42
  go_wp2_with fail
  refine HC.out.mono ?_
  rintro e w1 ⟨v', rfl, ho, hb, -⟩
  have HO := Lib.hid ho
  clear ho
  go_wp2
  go_ret
  exact ⟨v', rfl, HO.out, hb⟩

set_option maxHeartbeats 4000000 in
theorem bytes30 (A : Nat) (t q : Nat) (ht : t < 18446744073709551616) (hq : q < 18446744073709551616) (w : World) (c0 : w.cell? ⟨A, 0, none⟩ = some (.int .u64 t)) (c1 : w.cell? ⟨A, 1, none⟩ = some (.int .u64 q)) (hpow : Pow w) :
    Calls Tryd.prog 30 #[.pointer (some ⟨A, 0, none⟩)] w fun e w' => ∃ v, e = .returned v ∧ w'.ownsRow w.heap.size 5 1 v (idText t q).length (Lib.byteCells (idText t q)) ∧ Below w.heap.size w w' := by
  have hmk : ∀ w : World, (Instr.makeSlice 45 (.int .i64 0) (.int .i64 41)).run Tryd.prog w = .ok (.slice (some ⟨w.heap.size, 0, none⟩) 0 41) (w.alloc (.cells (madeCells #[.int .u8 0] 41) 5)) := fun w => make_row w 0 41 (by omega) (by omega)
  have hw1 : But [] w (w.alloc (.cells (madeCells #[.int .u8 0] 41) 5)) := (But.refl _ _).alloc _
  have ho0 : (w.alloc (.cells (madeCells #[.int .u8 0] 41) 5)).ownsRow w.heap.size 5 1 (.slice (some ⟨w.heap.size, 0, none⟩) 0 41) 0 [] :=
    ⟨rfl, .inr ⟨w.heap.size, 41, _, rfl, Nat.le_refl _, heap_alloc_new w _, by omega, by unfold maxLen; omega, by simp [madeCells], by simp⟩⟩
  have hz1 : (w.alloc (.cells (madeCells #[.int .u8 0] 41) 5)).heap.size = w.heap.size + 1 := by simp
  have hl1 := dec_len t ht
  have hl2 := dec_len q hq
  have HP := Lib.hid hpow
  have hA := block_lt_of_cell c0
  have HC1 := Lib.hid c1
  clear hpow
  obtain ⟨W1, hW1⟩ : ∃ W1, w.alloc (.cells (madeCells #[.int .u8 0] 41) 5) = W1 := ⟨_, rfl⟩
  rw [hW1] at hw1 ho0 hz1
  have c0' := hw1.cellAt c0 (by simp)
  have C1' := Lib.hid (hw1.cellAt HC1.out (by simp))
  have HP1 := Lib.hid (HP.out.but hw1 (fun g _ => by simp))
  have HO0 := Lib.hid ho0
  have HB1 := Lib.hid (hw1.toBelow)
  have HZ1 := Lib.hid hz1
  clear ho0 hw1 hz1
  go_enter Tryd.func30, Tryd.ntmps30
  go_wp2_with fail
  refine (uint42 w.heap.size 0 t ht _ [] W1 HO0.out (by rw [HZ1.out]; omega) (by omega) HP1.out).mono ?_
  rintro e W2 ⟨v2, rfl, ho2, hb2⟩
  have hz2 := hb2.size
  have HO2 := Lib.hid ho2
  have HB2 := Lib.hid hb2
  have C2 := Lib.hid ((hb2.cell (p := ⟨A, 1, none⟩) hA).trans C1'.out)
  have hw2 : w.heap.size < W2.heap.size := by rw [HZ1.out] at hz2; omega
  clear ho2 hb2 c0'
  go_wp2_with (at_builtin; refine app_lit rfl _ _ rfl w.heap.size v2 _ _ rfl (HO2.out.alloc _) W2.heap.size 1 1 #[.int .u8 45] rfl (heap_alloc_new W2 _) rfl (by simp [Value.oneCell']) (by omega) (by omega) (by simp; omega) ?_; intro v3 W3 ho3 hg3; (have hb3 : Below w.heap.size W2 W3 := ((Below.refl _ W2).alloc (by omega) _).grown hg3 (by simp; omega) (fun k hk => (World.ownsRow.lt HO2.out k hk).1)); have HO3 := Lib.hid ho3; have HB3 := Lib.hid hb3; have c3 := (hb3.cell (p := ⟨A, 1, none⟩) hA).trans C2.out; clear ho3 hg3 hb3)
  have hpow3 : Pow W3 := HP.out.below ((HB1.out.trans HB2.out).trans HB3.out)
  refine (uint42 w.heap.size _ q hq _ _ W3 HO3.out (by have := HB3.out.size; omega) (by omega) hpow3).mono ?_
  rintro e W4 ⟨v4, rfl, ho4, hb4⟩
  have HO4 := Lib.hid ho4
  have HB4 := Lib.hid hb4
  clear ho4 hb4 c3 hpow3
  go_wp2
  go_ret
  refine ⟨v4, rfl, ?_, ((HB1.out.trans HB2.out).trans HB3.out).trans HB4.out⟩
  have h := HO4.out
  have e1 : (idText t q).length = 0 + (Lib.decDigits t).length + 1 + (Lib.decDigits q).length := by simp [idText]; omega
  have e2 : Lib.byteCells (idText t q) = [] ++ Lib.byteCells (Lib.decDigits t) ++ [.int .u8 45] ++ Lib.byteCells (Lib.decDigits q) := by simp [idText, Lib.byteCells]
  rw [e1, e2]
  exact h
end Go.Proofs.YtdlimgghcpbkcaaDoor.ids
