/-
  Proved: the contract of (BlobStringBytes).MarshalRESP into a bytes.Buffer.
  Conditions: a text of at most 1000 bytes; the table of the powers of ten reads as its initialiser lays it.
-/
import Derived.Test.YtdlimgghcpbkcaaDoorIdB
namespace Go.Proofs.YtdlimgghcpbkcaaDoor.ids
open Go.RowKit Mem
set_option linter.unusedVariables false

/-- While the message is laid: the pool's slice holds l, all that was there ahead of it stands. -/
structure J (W1 : World) (B X : Nat) (wx : World) (v : Value) (l : List UInt8) : Prop where
  bb : BB wx B X v l
  below : Below B W1 wx
theorem J.lt {W1 wx : World} {B X : Nat} {v : Value} {l : List UInt8} (h : J W1 B X wx v l) : X < wx.heap.size := (Array.getElem?_eq_some_iff.1 h.bb.cell).1
theorem J.c0 {W1 wx : World} {B X : Nat} {v : Value} {l : List UInt8} (h : J W1 B X wx v l) : wx.cell? ⟨X, 0, none⟩ = some v := cell_of_row _ _ 0 _ _ _ h.bb.cell
theorem J.f0 {W1 wx : World} {B X : Nat} {v : Value} {l : List UInt8} (h : J W1 B X wx v l) : wx.frozen? ⟨X, 0, none⟩ = false := frozen_of_row _ _ 0 _ _ h.bb.cell
theorem J.ne {W1 wx : World} {B X : Nat} {v : Value} {l : List UInt8} (h : J W1 B X wx v l) : some X ≠ v.ownBlock := by
  intro e
  rcases h.bb.own.2 with ⟨rfl, _⟩ | ⟨g, cap, cur, rfl, _, hg, _⟩
  · simp [Value.ownBlock] at e
  · simp [Value.ownBlock] at e
    subst e
    rw [h.bb.cell] at hg
    simp at hg
theorem own_old {w w2 : World} {B : Nat} {v : Value} {n : Nat} {xs : List Value} (h : w.ownsRow B 5 1 v n xs) (hb : Below w.heap.size w w2) : w2.ownsRow B 5 1 v n xs := by
  refine ⟨h.1, ?_⟩
  rcases h.2 with h0 | ⟨g, cap, cur, hv, hB, hg, rest⟩
  · exact .inl h0
  · exact .inr ⟨g, cap, cur, hv, hB, (hb.block g (Array.getElem?_eq_some_iff.1 hg).1).trans hg, rest⟩
theorem J.next {W1 wx w2 : World} {B X : Nat} {v : Value} {l : List UInt8} (h : J W1 B X wx v l) (hb : Below wx.heap.size wx w2) : J W1 B X w2 v l :=
  ⟨⟨(hb.block X h.lt).trans h.bb.cell, own_old h.bb.own hb, h.bb.lo⟩, h.below.trans (hb.mono (by have := h.lt; have := h.bb.lo; omega))⟩
theorem J.stored {W1 w2 : World} {B X : Nat} {u v' : Value} {l' : List UInt8} (hx : w2.heap[X]? = some (.cells #[u] 45 (0, 0))) (own : w2.ownsRow B 5 1 v' l'.length (Lib.byteCells l')) (hb : Below B W1 w2) (hBX : B ≤ X) :
    J W1 B X (w2.setCell ⟨X, 0, none⟩ v') v' l' := by
  have hne : v'.ownBlock ≠ some X := by
    intro e
    rcases own.2 with ⟨rfl, _⟩ | ⟨g, cap, cur, rfl, _, hg, _⟩
    · simp [Value.ownBlock] at e
    · simp [Value.ownBlock] at e
      subst e
      rw [hx] at hg
      simp at hg
  refine ⟨⟨?_, ?_, hBX⟩, hb.setCell hBX _⟩
  · have := Lib.heap_setCell_same (i := 0) hx v'
    simpa using this
  · exact own.kept ⟨rfl, rfl, rfl, by simp [World.setCell], fun i hi hn => Below.heap_setCell _ _ _ _ (fun e => hn (by rw [e]))⟩ (Or.inr hne)
theorem delim45 (w : World) :
    Calls Tryd.prog 45 #[] w fun e w' => e = .returned (.slice (some ⟨w.heap.size, 0, none⟩) 2 2) ∧ w.alloc (.cells #[.int .u8 13, .int .u8 10] 5) = w' := by
  go_enter Tryd.func45, Tryd.ntmps45
  go_wp2
  go_ret
  exact ⟨rfl, rfl⟩

/-- The message's invariant, behind an append and its store. -/
theorem J.put {W1 wx wa w2 : World} {B X : Nat} {v v' : Value} {l more : List UInt8} (h : J W1 B X wx v l) (ha : Below wx.heap.size wx wa) (hg : wa.grownBy w2 v.ownBlock)
    (own : w2.ownsRow B 5 1 v' (l.length + more.length) (Lib.byteCells l ++ Lib.byteCells more)) : J W1 B X (w2.setCell ⟨X, 0, none⟩ v') v' (l ++ more) := by
  have h1 := h.next ha
  have hx := (hg.block X h1.lt h1.ne).trans h1.bb.cell
  have e1 : (l ++ more).length = l.length + more.length := List.length_append
  have e2 : Lib.byteCells (l ++ more) = Lib.byteCells l ++ Lib.byteCells more := by simp [Lib.byteCells]
  refine J.stored hx (by rw [e1, e2]; exact own) ?_ h.bb.lo
  exact h1.below.grown hg (by have := h1.lt; have := h.bb.lo; omega) (fun k hk => (World.ownsRow.lt h1.bb.own k hk).1)

/-- An append to the pool's slice, at the operation: what the store behind it wants, and what stands behind that. -/
theorem J.app {W1 wx wa : World} {B X : Nat} {v : Value} {l : List UInt8} (h : J W1 B X wx v l) (ha : Below wx.heap.size wx wa)
    {ops : Array Oper} {rest : List Oper} {o : Oper} {a : Act} {Q : Exit → Act → World → Prop} (hgd : o.guard = none) (s x : Operand)
    (ho : o.op = .call { callee := .builtin .append, args := #[s, x], argTypes := #[45, 45] }) (hs : a.eval s = v)
    (A m c : Nat) (more : List UInt8) (hx : a.eval x = .slice (some ⟨A, 0, none⟩) m c) (hsrc : ∀ j y, more[j]? = some y → wa.cell? ⟨A, j, none⟩ = some (.int .u8 (y.toNat : Int))) (hl : more.length = m) (hm : 0 < m) (h63 : l.length + m ≤ 10000)
    (hk : ∀ g cap w', w'.cell? ⟨X, 0, none⟩ = some v → w'.frozen? ⟨X, 0, none⟩ = false → J W1 B X (w'.setCell ⟨X, 0, none⟩ (.slice (some ⟨g, 0, none⟩) (l.length + m) cap)) (.slice (some ⟨g, 0, none⟩) (l.length + m) cap) (l ++ more) → wpList Tryd.prog ops Q rest (a.put o.dst (.slice (some ⟨g, 0, none⟩) (l.length + m) cap)) w') : wpList Tryd.prog ops Q (o :: rest) a wa := by
  obtain ⟨i0, hi0, hz0, hz1, hz2'⟩ := info_parts info_byte
  have h1 := h.next ha
  have hB : B ≤ wa.heap.size := by have := h1.lt; have := h1.bb.lo; omega
  refine wpList_append_lies wa hgd s x 45 ho B 5 i0 (.int .u8 0) 1 1 Tryd.underlying45 hi0 hz0 hz1 hz2' rfl (by omega) v l.length (Lib.byteCells l) hs h1.bb.own ⟨A, 0, none⟩ m c (Lib.byteCells more) hx (by simp [Lib.byteCells, hl])
    (fun j u hu => by
      simp only [Lib.byteCells, List.getElem?_map, Option.map_eq_some_iff] at hu
      obtain ⟨y, hy, rfl⟩ := hu
      rw [Addr.add_lit, Nat.zero_add]
      exact hsrc j y hy) (Lib.byteCells_one more) hm (by unfold maxLen; omega) (by omega) hB _ rfl (fun g cap w' h2 h3 _ _ => ?_)
  refine hk _ _ w' ((h3.cell_far ⟨X, 0, none⟩ h1.lt h1.ne).trans h1.c0) ((h3.frozen_far ⟨X, 0, none⟩ h1.lt h1.ne).trans h1.f0) (h.put ha h3 ?_)
  rw [hl]
  exact h2
/-- The same at a step of a region that draws its order. -/
theorem J.step {W1 wx wa : World} {B X : Nat} {v : Value} {l : List UInt8} (h : J W1 B X wx v l) (ha : Below wx.heap.size wx wa)
    {ops : Array Oper} {o : Oper} {a : Act} {K : Act → World → Prop} {Q : Exit → Act → World → Prop} {E : Prop} (hgd : o.guard = none) (s x : Operand)
    (ho : o.op = .call { callee := .builtin .append, args := #[s, x], argTypes := #[45, 45] }) (hs : a.eval s = v)
    (A m c : Nat) (more : List UInt8) (hx : a.eval x = .slice (some ⟨A, 0, none⟩) m c) (hsrc : ∀ j y, more[j]? = some y → wa.cell? ⟨A, j, none⟩ = some (.int .u8 (y.toNat : Int))) (hl : more.length = m) (hm : 0 < m) (h63 : l.length + m ≤ 10000) (N : Nat) (hN : l.length + m = N)
    (hk : ∀ g cap w', w'.cell? ⟨X, 0, none⟩ = some v → w'.frozen? ⟨X, 0, none⟩ = false → J W1 B X (w'.setCell ⟨X, 0, none⟩ (.slice (some ⟨g, 0, none⟩) N cap)) (.slice (some ⟨g, 0, none⟩) N cap) (l ++ more) → K (a.put o.dst (.slice (some ⟨g, 0, none⟩) N cap)) w') :
    if Region.wanted o (yielded ops a.tmps) = true then Oper.wp Tryd.prog o a wa K Q else E := by
  subst hN
  obtain ⟨i0, hi0, hz0, hz1, hz2'⟩ := info_parts info_byte
  have h1 := h.next ha
  have hB : B ≤ wa.heap.size := by have := h1.lt; have := h1.bb.lo; omega
  refine step_append_lies wa hgd s x 45 ho B 5 i0 (.int .u8 0) 1 1 Tryd.underlying45 hi0 hz0 hz1 hz2' rfl (by omega) v l.length (Lib.byteCells l) hs h1.bb.own ⟨A, 0, none⟩ m c (Lib.byteCells more) hx (by simp [Lib.byteCells, hl])
    (fun j u hu => by
      simp only [Lib.byteCells, List.getElem?_map, Option.map_eq_some_iff] at hu
      obtain ⟨y, hy, rfl⟩ := hu
      rw [Addr.add_lit, Nat.zero_add]
      exact hsrc j y hy) (Lib.byteCells_one more) hm (by unfold maxLen; omega) (by omega) hB _ rfl (fun g cap w' h2 h3 _ _ => ?_)
  refine hk _ _ w' ((h3.cell_far ⟨X, 0, none⟩ h1.lt h1.ne).trans h1.c0) ((h3.frozen_far ⟨X, 0, none⟩ h1.lt h1.ne).trans h1.f0) (h.put ha h3 ?_)
  rw [hl]
  exact h2
theorem lit_src (w : World) (more : List UInt8) : ∀ j y, more[j]? = some y → (w.alloc (.cells (Lib.byteCells more).toArray 5)).cell? ⟨w.heap.size, j, none⟩ = some (.int .u8 (y.toNat : Int)) := fun j y hy => by
  rw [cell_of_row _ _ j _ _ _ (heap_alloc_new w _)]
  simp only [List.getElem?_toArray, Lib.byteCells, List.getElem?_map, hy, Option.map_some]

theorem own_src {w : World} {B g n c m : Nat} {xs : List Value} (h : w.ownsRow B 5 1 (.slice (some ⟨g, 0, none⟩) n c) m xs) :
    n = m ∧ B ≤ g ∧ c ≤ maxLen ∧ ∀ j v, xs[j]? = some v → w.cell? ⟨g, j, none⟩ = some v := by
  rcases h.2 with ⟨h0, _⟩ | ⟨g', cap, cur, hv, hb, hg, h1, h2, h3, h4⟩
  · simp at h0
  · simp only [Value.slice.injEq, Option.some.injEq, Addr.mk.injEq] at hv
    obtain ⟨⟨rfl, _, _⟩, rfl, rfl⟩ := hv
    refine ⟨rfl, hb, h2, fun j v hj => ?_⟩
    rw [cell_of_row _ _ j _ _ _ hg]
    rw [← h4] at hj
    rw [List.getElem?_take] at hj
    split at hj
    · simpa using hj
    · cases hj
/-- A buffer that stands over writes into two blocks of other kinds. -/
theorem buffer_but {T : TypeId} {R : Nat → Option Value} {B b P X : Nat} {bs : List Value} {w w' : World} (h : LibA.IsBuffer T R 5 B b 0 bs w) (hb : But [P, X] w w') (hP : b ≠ P) (hX : b ≠ X)
    (oP : ∀ c fz, w.heap[P]? ≠ some (.cells c 5 fz)) (oX : ∀ c fz, w.heap[X]? ≠ some (.cells c 5 fz)) : LibA.IsBuffer T R 5 B b 0 bs w' := by
  have hlt := h.lt
  obtain ⟨hB, v, lr, hbk, hown, hne⟩ := h
  refine ⟨hB, v, lr, hbk.of_heap (hb.block b hlt (by simp [hP, hX])), ⟨hown.1, ?_⟩, hne⟩
  rcases hown.2 with hn | ⟨g, cap, cur, hv, hbg, hg, rest⟩
  · exact .inl hn
  · exact .inr ⟨g, cap, cur, hv, hbg, hb.heapAt hg (by
      simp only [List.mem_cons, List.not_mem_nil, or_false, not_or]
      exact ⟨fun e => oP _ _ (e ▸ hg), fun e => oX _ _ (e ▸ hg)⟩), rest⟩
theorem method_write (a : Addr) (w : World) : (method 286 64 (.pointer (some a)) "Write").run Tryd.prog w = .ok (81, .pointer (some a)) w := by kernel_rfl
theorem nil_write (a : Addr) (w : World) : (nilAhead 286 64 (.pointer (some a)) "Write").run Tryd.prog w = .ok (some false) w := by kernel_rfl

set_option maxHeartbeats 8000000 in
set_option maxRecDepth 20000 in
theorem blob31 (T : TypeId) (R : Nat → Option Value) (Bb b O P : Nat) (g0 n0 cap0 : Nat) (l : List UInt8) (w : World) (hn : l.length = n0) (hl : l.length ≤ 1000) (hl0 : 0 < l.length)
    (hsrc : ∀ j x, l[j]? = some x → w.cell? ⟨g0, j, none⟩ = some (.int .u8 (x.toNat : Int))) (hopt : OptsAt w O P) (hbuf : LibA.IsBuffer T R 5 Bb b 0 [] w) (hBb : Bb ≤ w.heap.size) (hP : Bb ≤ P) (hbP : b ≠ P) (hpow : Pow w) :
    Calls Tryd.prog 31 #[.agg #[.slice (some ⟨g0, 0, none⟩) n0 cap0, .bool false], .iface 64 (.pointer (some ⟨b, 0, none⟩)), .pointer (some ⟨O, 0, none⟩)] w
      fun e w' => e = .returned .nilIface ∧ LibA.IsBuffer T R 5 Bb b 0 (Lib.byteCells (blobText 36 l)) w' ∧ Below Bb w w' := by
  obtain ⟨W1, hW1⟩ : ∃ W1, w.alloc (.cells #[.slice (some ⟨g0, 0, none⟩) n0 cap0, .bool false] 101) = W1 := ⟨_, rfl⟩
  have hw1 : But [] w W1 := hW1 ▸ (But.refl _ _).alloc _
  have hk : W1.heap[w.heap.size]? = some (.cells #[.slice (some ⟨g0, 0, none⟩) n0 cap0, .bool false] 101 (0, 0)) := hW1 ▸ heap_alloc_new w _
  have o0 := hw1.cellAt hopt.get (by simp)
  have o1 := hw1.cellAt hopt.put (by simp)
  have hpool : PoolAt W1 P := ⟨hw1.heapAt hopt.pool.row (by simp)⟩
  have hk0 : W1.cell? ⟨w.heap.size, 0, none⟩ = some (.slice (some ⟨g0, 0, none⟩) n0 cap0) := cell_of_row _ _ 0 _ _ _ hk
  have hk1 : W1.cell? ⟨w.heap.size, 1, none⟩ = some (.bool false) := cell_of_row _ _ 1 _ _ _ hk
  have hKlt : w.heap.size < W1.heap.size := block_lt_of_cell hk0
  have HK0 := Lib.hid hk0
  have HK1 := Lib.hid hk1
  clear hk0 hk1
  have HP := Lib.hid hpool
  have HK := Lib.hid hk
  have HB := Lib.hid hbuf
  have HS := Lib.hid hsrc
  have HW := Lib.hid hw1
  have HPOW := Lib.hid hpow
  clear hpool hk hbuf hsrc hw1 hpow hopt
  go_enter_defers Tryd.func31, Tryd.ntmps31
  go_wp2_with fail
  refine (get34 P W1 HP.out).mono ?_
  rintro e w2 ⟨X, v2, rfl, hbb, hbu2⟩
  have hj : J W1 W1.heap.size X w2 v2 [] := ⟨hbb, hbu2.toBelow⟩
  have o1' := hbu2.cellAt o1 (by simp)
  have c2 := hj.c0
  have f2 := hj.f0
  have hX2 := hj.lt
  have hXlo := hj.bb.lo
  have HJ2 := Lib.hid hj
  clear hbb hbu2 hj o0 o1
  have hl2 := lit_src w2 [36]
  have HL2 := Lib.hid hl2
  clear hl2
  go_wp2_with (at_builtin; go_loud (refine HJ2.out.app (((But.refl [] w2).alloc (.cells (Lib.byteCells [36]).toArray 5)).toBelow) rfl _ _ rfl rfl w2.heap.size 1 1 [36] rfl HL2.out rfl (by omega) (by simp) ?_; intro g3 cap3 w3 c3 f3 hj3; obtain ⟨w4, hw4⟩ : ∃ w4, w3.setCell ⟨X, 0, none⟩ (.slice (some ⟨g3, 0, none⟩) 1 cap3) = w4 := ⟨_, rfl⟩; (have hj4 : J W1 W1.heap.size X w4 (.slice (some ⟨g3, 0, none⟩) 1 cap3) [36] := hw4 ▸ hj3); clear hj3; have p0 := (hj4.below.cell (p := ⟨w.heap.size, 0, none⟩) hKlt).trans HK0.out; have p1 := (hj4.below.cell (p := ⟨w.heap.size, 1, none⟩) hKlt).trans HK1.out; have c4 := hj4.c0; have f4 := hj4.f0; have HJ3 := Lib.hid hj4; clear hj4))
  have hX4 := HJ3.out.lt
  have AI := Lib.hid (Tryd.strconv_AppendInt_10 W1.heap.size 1 (n0 : Int) (by omega) (by omega) (.slice (some ⟨g3, 0, none⟩) 1 cap3) (Lib.byteCells [36]) w4.drew HJ3.out.bb.own (by show _ ≤ w4.heap.size; omega) (by simp) (fun w' hb => (HPOW.out.but HW.out (fun g _ => by simp)).below (HJ3.out.below.drew.trans hb)))
  go_cut [] from 36 to 44 (fun wx => ∃ g n c, J W1 W1.heap.size X wx (.slice (some ⟨g, 0, none⟩) n c) ([36] ++ Lib.decDigits l.length))
  case first =>
    refine wp_region_noPanic ?_
    go_region_with (go_at_call 44; refine AI.out.mono ?_; rintro e w5 ⟨v5, rfl, ho5, hb5, hk5⟩; obtain ⟨g5, cap5, rfl, _, _⟩ := World.ownsRow.form ho5 (by omega); have hx5 : w5.heap[X]? = _ := hk5 X _ HJ3.out.bb.cell (by simp) (by simp); have c5 : w5.cell? ⟨X, 0, none⟩ = _ := cell_of_row _ _ 0 _ _ _ hx5; have f5 : w5.frozen? ⟨X, 0, none⟩ = false := frozen_of_row _ _ 0 _ _ hx5; have HX5 := Lib.hid hx5; have HO5 := Lib.hid ho5; have HB5 := Lib.hid hb5; clear hx5 ho5 hb5 hk5)
    all_goals
      refine NoPanic.normal ?_
      have hj6 := J.stored HX5.out (l' := [36] ++ Lib.decDigits l.length) (v' := .slice (some ⟨g5, 0, none⟩) (1 + (Lib.itoa (n0 : Int)).length) cap5) (by
        have h := HO5.out
        have e0 : Lib.itoa (n0 : Int) = Lib.decDigits l.length := by
          rw [hn]
          unfold Lib.itoa
          rw [if_neg (by omega)]
          rfl
        rw [e0] at h ⊢
        simpa [Lib.byteCells, Nat.add_comm] using h) (HJ3.out.below.drew.trans HB5.out) hXlo
      generalize w5.setCell ⟨X, 0, none⟩ (.slice (some ⟨g5, 0, none⟩) (1 + (Lib.itoa (n0 : Int)).length) cap5) = w6 at *
    all_goals
      go_wp2_with fail
      go_meet
      exact ⟨_, _, _, hj6⟩
  case rest =>
    obtain ⟨g6, n6, cap6, hj6⟩ := hcut
    have c6 := hj6.c0
    have hdl := dec_len l.length (by omega)
    have hva : ∀ o, (wc.alloc o).cell? ⟨X, 0, none⟩ = some (.slice (some ⟨g6, 0, none⟩) n6 cap6) := fun o => ((But.refl [] wc).alloc o).cellAt c6 (by simp)
    have hl6 := lit_src wc [13, 10]
    have HL6 := Lib.hid hl6
    obtain ⟨N7, hN7⟩ : ∃ N, ([36] ++ Lib.decDigits l.length).length + 2 = N := ⟨_, rfl⟩
    have HN7 := Lib.hid hN7
    clear hN7
    have HJ6 := Lib.hid hj6
    clear hl6 hj6 c2 f2 c3 f3 c4 f4 p0 p1 HJ2 HJ3 AI hw4 HL2
    go_wp2_with fail
    go_cut [] from 45 to 51 (fun wx => ∃ g n c, J W1 W1.heap.size X wx (.slice (some ⟨g, 0, none⟩) n c) ([36] ++ Lib.decDigits l.length ++ end2))
    case first =>
      refine wp_region_noPanic ?_
      go_region_law (first
        | (refine J.step HJ6.out (wa := (wc.alloc (.cells (Lib.byteCells [13, 10]).toArray 5)).drew) (((But.refl [] wc).alloc _).drew.toBelow) (by rfl) _ _ (by rfl) (by rfl) wc.heap.size 2 2 [13, 10] (by rfl) HL6.out rfl (by omega) (by simp; omega) N7 HN7.out ?_; intro g7 cap7 w7 c7 f7 hj7)
        | (go_simp; go_at_call 45; refine (delim45 _).mono ?_; rintro e w' ⟨rfl, rfl⟩))
      all_goals
        refine NoPanic.normal ?_
        generalize w7.setCell ⟨X, 0, none⟩ (.slice (some ⟨g7, 0, none⟩) N7 cap7) = w8 at *
        go_wp2_with fail
        go_meet
        exact ⟨_, _, _, (show J _ _ _ _ _ ([36] ++ Lib.decDigits l.length ++ end2) from hj7)⟩
    case rest =>
      obtain ⟨g7, n7, cap7, hj7⟩ := hcut
      have c7 := hj7.c0
      have p0 := (hj7.below.cell (p := ⟨w.heap.size, 0, none⟩) hKlt).trans HK0.out
      have HJ7 := Lib.hid hj7
      have hs7 : ∀ j x, l[j]? = some x → wc.drew.cell? ⟨g0, j, none⟩ = some (.int .u8 (x.toNat : Int)) := fun j x hx => by
        have h1 := HW.out.cellAt (HS.out j x hx) (by simp)
        exact (hj7.below.cell (p := ⟨g0, j, none⟩) (block_lt_of_cell h1)).trans h1
      have HS7 := Lib.hid hs7
      obtain ⟨N8, hN8⟩ : ∃ N, ([36] ++ Lib.decDigits l.length ++ end2).length + n0 = N := ⟨_, rfl⟩
      have HN8 := Lib.hid hN8
      clear hN8
      clear hj7 hs7 HL6 HJ6 c6 hva
      go_wp2_with fail
      go_cut [] from 52 to 59 (fun wx => ∃ g n c, J W1 W1.heap.size X wx (.slice (some ⟨g, 0, none⟩) n c) ([36] ++ Lib.decDigits l.length ++ end2 ++ l))
      case first =>
        refine wp_region_noPanic ?_
        go_region_law (first
          | (refine J.step HJ7.out (wa := wc.drew) ((But.refl [] wc).drew.toBelow) (by rfl) _ _ (by rfl) (by rfl) g0 n0 cap0 l (by rfl) HS7.out hn (by omega) (by simp [end2]; omega) N8 HN8.out ?_; intro g8 cap8 w8 c8 f8 hj8))
        all_goals
          refine NoPanic.normal ?_
          generalize w8.setCell ⟨X, 0, none⟩ (.slice (some ⟨g8, 0, none⟩) N8 cap8) = w9 at *
          go_wp2_with fail
          go_meet
          exact ⟨_, _, _, hj8⟩
      case rest =>
        obtain ⟨g8, n8, cap8, hj8⟩ := hcut
        have c8 := hj8.c0
        have hva : ∀ o, (wc.alloc o).cell? ⟨X, 0, none⟩ = some (.slice (some ⟨g8, 0, none⟩) n8 cap8) := fun o => ((But.refl [] wc).alloc o).cellAt c8 (by simp)
        have hl8 := lit_src wc [13, 10]
        have HL8 := Lib.hid hl8
        obtain ⟨N9, hN9⟩ : ∃ N, ([36] ++ Lib.decDigits l.length ++ end2 ++ l).length + 2 = N := ⟨_, rfl⟩
        have HN9 := Lib.hid hN9
        have HJ8 := Lib.hid hj8
        clear hN9 hl8 hj8 HJ7 HS7 HN8 HN7 c7 p0
        go_wp2_with fail
        go_cut [] from 60 to 67 (fun wx => ∃ g n c, J W1 W1.heap.size X wx (.slice (some ⟨g, 0, none⟩) n c) ([36] ++ Lib.decDigits l.length ++ end2 ++ l ++ end2))
        case first =>
          refine wp_region_noPanic ?_
          go_region_law (first
            | (refine J.step HJ8.out (wa := (wc.alloc (.cells (Lib.byteCells [13, 10]).toArray 5)).drew) (((But.refl [] wc).alloc _).drew.toBelow) (by rfl) _ _ (by rfl) (by rfl) wc.heap.size 2 2 [13, 10] (by rfl) HL8.out rfl (by omega) (by simp [end2]; omega) N9 HN9.out ?_; intro g9 cap9 w9 c9 f9 hj9)
            | (go_simp; go_at_call 45; refine (delim45 _).mono ?_; rintro e w' ⟨rfl, rfl⟩))
          all_goals
            refine NoPanic.normal ?_
            generalize w9.setCell ⟨X, 0, none⟩ (.slice (some ⟨g9, 0, none⟩) N9 cap9) = w10 at *
            go_wp2_with fail
            go_meet
            exact ⟨_, _, _, (show J _ _ _ _ _ ([36] ++ Lib.decDigits l.length ++ end2 ++ l ++ end2) from hj9)⟩
        case rest =>
          obtain ⟨g9, n9, cap9, hj9⟩ := hcut
          have c9 := hj9.c0
          have HJ9 := Lib.hid hj9
          obtain ⟨rfl, hg9, hcap9, hs9⟩ := own_src hj9.bb.own
          have hl9 : ([36] ++ Lib.decDigits l.length ++ end2 ++ l ++ end2).length ≤ 2000 := by simp [end2]; omega
          obtain ⟨n9, hn9⟩ : ∃ n9, ([36] ++ Lib.decDigits l.length ++ end2 ++ l ++ end2).length = n9 := ⟨_, rfl⟩
          rw [hn9] at c9 HJ9 hl9
          have hbc : (Lib.byteCells ([36] ++ Lib.decDigits l.length ++ end2 ++ l ++ end2)).length = n9 := by simp only [Lib.byteCells, List.length_map]; exact hn9
          have hbu9 : LibA.IsBuffer T R 5 Bb b 0 [] wc := HB.out.old (HW.out.toBelow.trans (hj9.below.mono HW.out.size))
          have hblt := HB.out.lt
          have hWsz := HW.out.size
          have hwcsz := hj9.below.size
          have HWR := Lib.hid (Tryd.Buffer_Write_at T R Bb b 0 [] (Lib.byteCells ([36] ++ Lib.decDigits l.length ++ end2 ++ l ++ end2)) ⟨g9, 0, none⟩ n9 cap9 wc.drew hbu9 (by show Bb ≤ wc.heap.size; omega) (by simp) hbc (by simp; omega) (fun j v hj => by rw [Addr.add_lit, Nat.zero_add]; exact hs9 j v hj) (Lib.byteCells_one _) (by simp; omega))
          have hm := method_write ⟨b, 0, none⟩
          have hna := nil_write ⟨b, 0, none⟩
          clear hj9 HL8 HN9 HJ8 c8 hva hs9 hbu9
          go_wp2_with fail
          refine wp_region_noPanic ?_
          go_region_with (go_at_call 81; refine HWR.out.mono ?_; rintro e w5 ⟨rfl, hbu5, hb5, ho5⟩; have HBU5 := Lib.hid hbu5; have HB5 := Lib.hid hb5; have HO5 := Lib.hid ho5; clear hbu5 hb5 ho5)
          all_goals
            refine NoPanic.normal ?_
            go_wp2_with fail
          have hPlt : P < W1.heap.size := (Array.getElem?_eq_some_iff.1 HP.out.row).1
          have hrP : wc.drew.heap[P]? = _ := (HJ9.out.below.block P hPlt).trans HP.out.row
          have hrX : wc.drew.heap[X]? = _ := HJ9.out.bb.cell
          have hrP5 := HO5.out P _ hrP (by simp; omega) (by intro c fz hc; simp at hc)
          have hrX5 := HO5.out X _ hrX (by simp; omega) (by intro c fz hc; simp at hc)
          refine leaves_cons (f := 35) (args := #[.pointer (some ⟨P, 0, none⟩), .pointer (some ⟨X, 0, none⟩)]) (by simp) (by simp [go_sem]) ?_
          refine (put35 P X _ _ _ (by unfold maxLen at hcap9; omega) w5 ⟨hrP5⟩ hrX5 (by omega)).mono ?_
          rintro e u' w6 ⟨rfl, rfl, hb6⟩
          simp [Leaves, settle, results, Tryd.results31, go_sem]
          refine ⟨?_, ?_⟩
          · have h := buffer_but HBU5.out hb6 hbP (by omega) (fun c fz => by rw [hrP5]; simp) (fun c fz => by rw [hrX5]; simp)
            simpa [blobText] using h
          · have h1 : Below Bb w wc := (HW.out.below Bb hBb (fun _ e => by cases e)).trans (HJ9.out.below.mono (by omega))
            exact (h1.drew.trans HB5.out).trans (hb6.below Bb (by have := HB5.out.size; have : Bb ≤ wc.drew.heap.size := (by show Bb ≤ wc.heap.size; omega); omega) (fun k hk => by simp at hk; omega))
end Go.Proofs.YtdlimgghcpbkcaaDoor.ids
