/-
  Proved: the contracts of spec.SHA1 and spec.Hex.
  Conditions: texts of at most 100000 bytes.
-/
import Derived.Test.YtdlimgghcpbkcaaShaP
import Derived.Lib.HexFns
namespace Go.Proofs.Ytdlimgghcpbkcaa.sha
open Go.RowKit Mem Go.Great
set_option linter.unusedVariables false

theorem spec28' (h : S5) (g o cap : Nat) (b : Nat → BitVec 32) (w : World) (h8 : ∀ i, iv (b i) ≤ 255) (hb : ∀ i, i < 64 → w.cell? ⟨g, o + i, none⟩ = some (.int .u8 (iv (b i)))) :
    Calls Try.prog 28 #[.agg #[.int .u32 (iv h.a), .int .u32 (iv h.b), .int .u32 (iv h.c), .int .u32 (iv h.d), .int .u32 (iv h.e)], .slice (some ⟨g, o, none⟩) 64 cap] w
      fun e w' => e = .returned (.agg #[.int .u32 (iv (block h b).a), .int .u32 (iv (block h b).b), .int .u32 (iv (block h b).c), .int .u32 (iv (block h b).d), .int .u32 (iv (block h b).e)]) ∧ Below w.heap.size w w' :=
  spec28 h g o cap b w h8 hb

theorem bufDrew {w : World} {A cap : Nat} {l : List UInt8} (h : BufAt w A l cap) : BufAt w.drew A l cap := ⟨h.bytes, h.room, h.free, h.le, h.lt, h.lim⟩
theorem BufAt.src {w : World} {A cap : Nat} {l : List UInt8} (h : BufAt w A l cap) (o : Nat) (ho : o + 64 ≤ l.length) : ∀ i, i < 64 → w.cell? ⟨A, o + i, none⟩ = some (.int .u8 (iv (wb l (o + i)))) := by
  intro i hi
  have hlt : o + i < l.length := by omega
  rw [h.bytes (o + i) (l[o + i]) (List.getElem?_eq_getElem hlt), iv_wb]
  simp [hlt]
/-- Four bytes of a word, as a slice literal lays them. -/
theorem lit4 (w : World) (x : BitVec 32) : ∀ j b, (be32 x)[j]? = some b → (w.alloc (.cells #[.int .u8 (iv x / 16777216), .int .u8 (iv x / 65536 % 256), .int .u8 (iv x / 256 % 256), .int .u8 (iv x % 256)] 5)).cell? ⟨w.heap.size, 0 + j, none⟩ = some (.int .u8 (b.toNat : Int)) := by
  have hi := iv_hi x
  have lo := iv_lo x
  have e0 : iv x / (16777216 : Int) = ((UInt8.ofNat (x >>> 24).toNat).toNat : Int) := by rw [← byte_iv x 24 16777216 (by decide)]; omega
  have e3 : iv x % (256 : Int) = ((UInt8.ofNat x.toNat).toNat : Int) := by rw [UInt8.toNat_ofNat']; unfold iv; omega
  rw [e0, byte_iv x 16 65536 (by decide), byte_iv x 8 256 (by decide), e3]
  intro j b hb
  rw [cell_of_row _ _ _ _ _ _ (Go.heap_alloc_new w _), Nat.zero_add]
  have hj : j < 4 := (List.getElem?_eq_some_iff.1 hb).1
  obtain rfl | rfl | rfl | rfl : j = 0 ∨ j = 1 ∨ j = 2 ∨ j = 3 := by omega
  all_goals
    obtain rfl := Option.some.inj hb
    rfl
/-- append of bytes to nothing. -/
theorem app_nil {w : World} {ops : Array Oper} {rest : List Oper} {o : Oper} {a : Act} {Q : Exit → Act → World → Prop} (hgd : o.guard = none) (s x : Operand)
    (ho : o.op = .call { callee := .builtin .append, args := #[s, x], argTypes := #[50, 50] }) (hs : a.eval s = .slice none 0 0)
    (B p m c : Nat) (y : List UInt8) (hx : a.eval x = .slice (some ⟨B, p, none⟩) m c) (hy : ∀ j x, y[j]? = some x → w.cell? ⟨B, p + j, none⟩ = some (.int .u8 (x.toNat : Int))) (hm : y.length = m) (hm0 : 0 < m) (hlim : m ≤ 70368744177664) (N : Nat) (hN : w.heap.size = N)
    (h : ∀ cap' w', Hid (BufAt w' N y cap') → Hid (But [] w w') → wpList Try.prog ops Q rest (a.put o.dst (.slice (some ⟨N, 0, none⟩) m cap')) w') : wpList Try.prog ops Q (o :: rest) a w := by
  subst hN
  obtain ⟨i, hi, hz, hz1, hz2⟩ := info_parts info_byte
  have hbl : (Lib.byteCells y).length = m := by rw [Lib.byteCells_length, hm]
  have hsr : Go.Src Try.prog i.size 50 (.slice (some ⟨B, p, none⟩) m c) m (Lib.byteCells y) w := Go.Src.ofSlice w Try.underlying50 _ m c _ (by rw [hbl, hz1, Nat.mul_one]) (fun j u hu => by
    simp only [Lib.byteCells, List.getElem?_map, Option.map_eq_some_iff] at hu
    obtain ⟨x, hx, rfl⟩ := hu
    rw [Addr.add_lit]
    exact hy j x hx) (fun u hu => by
      obtain ⟨_, _, rfl⟩ := List.mem_map.1 hu
      rfl)
  have hg := run_append_grow_src (P := Try.prog) w 50 50 o.type 5 i (.int .u8 0) Try.underlying50 hi hz none 0 0 [] (by simp [Builtin.firstCells]) _ m _ hsr (by omega) (by omega) (by rw [hz2]; exact growslice_fits (by omega) (by omega))
  rw [Nat.zero_add] at hg
  have hge := grownCap_ge w m 0 5
  refine app_step hgd s x _ _ ho _ _ _ hs hx hg (h _ _ (Lib.hid ?_) (Lib.hid (((But.refl [] w).drew).alloc _)))
  have hh := Go.heap_alloc_new w.drew (.cells (([] ++ Lib.byteCells y).toArray ++ Builtin.zeroCells (Value.int .u8 0).cells (grownCap w m 0 5 - m)) 5)
  rw [show w.drew.heap.size = w.heap.size from rfl] at hh
  have hsz : (([] ++ Lib.byteCells y).toArray ++ Builtin.zeroCells (Value.int .u8 0).cells (grownCap w m 0 5 - m)).size = grownCap w m 0 5 := by
    have hz1 : (Value.int IntKind.u8 0).cells.size = 1 := rfl
    simp only [Array.size_append, List.size_toArray, size_zeroCells, hz1, List.nil_append, Lib.byteCells_length]
    omega
  refine ⟨fun j x hx => ?_, fun j hj => ?_, fun j hj => ?_, by rw [hm]; exact hge, by simp, by have := grownCap_le_maxLen w m 0 5 (by unfold maxLen; omega); unfold maxLen at this; omega⟩
  · rw [cell_of_row _ _ j _ _ _ hh]
    have hjl : j < (Lib.byteCells y).length := by
      have := (List.getElem?_eq_some_iff.1 hx).1
      simpa [Lib.byteCells] using this
    rw [List.nil_append, Array.getElem?_append_left (by simpa using hjl)]
    rw [List.getElem?_toArray]
    unfold Lib.byteCells
    rw [List.getElem?_map, hx]
    rfl
  · rw [cell_of_row _ _ j _ _ _ hh]
    rw [Array.getElem?_eq_getElem (by rw [hsz]; exact hj)]
    rfl
  · exact frozen_of_row _ _ j _ _ hh

set_option maxRecDepth 100000 in
set_option maxHeartbeats 8000000 in
theorem spec11 (s : ByteArray) (hsz : s.size ≤ 100000) (w : World) :
    Calls Try.prog 11 #[.string s] w fun e w' => e = .returned (.string ⟨(sum s.data.toList).toArray⟩) ∧ Below w.heap.size w w' := by
  go_enter Try.func11, Try.ntmps11
  have HP := Lib.hid (padded27 s hsz)
  go_wp2_with (go_at_call 27; refine (HP.out _).mono ?_; rintro e w2 ⟨v, rfl, ho2⟩)
  obtain ⟨g, cap, rfl, hbuf, hg, hbel⟩ := ho2.out
  obtain ⟨all, hall⟩ : ∃ all, s.data.toList ++ tail s.size = all := ⟨_, rfl⟩
  have hN64 : all.length % 64 = 0 := by rw [← hall, List.length_append]; have := tail_whole s.size; simpa using this
  have hNmax : all.length ≤ 200000 := by
    have h1 : tailZ s.size ≤ 63 := by unfold tailZ; split <;> omega
    have h2 : s.data.toList.length = s.size := by simp
    rw [← hall, List.length_append, tail_length, h2]
    omega
  rw [hall] at hbuf
  rw [hall]
  obtain ⟨N, hN⟩ : ∃ N, all.length = N := ⟨_, rfl⟩
  rw [hN] at hN64 hNmax
  rw [hN]
  have HALL := Lib.hid hall
  have HN := Lib.hid hN
  have hz : (w.alloc (.cells #[.int .u32 1732584193, .int .u32 4023233417, .int .u32 2562383102, .int .u32 271733878, .int .u32 3285377520] 60)).heap.size = w.heap.size + 1 := heap_alloc_size _ _
  rw [hz] at hg
  have hb0 : Below w.heap.size w w2 := ((But.refl [] w).alloc _).toBelow.trans (hbel.mono (by rw [hz]; omega))
  have hrow : Row w2 w.heap.size 5 60 init.f := (hbel.block _ (by rw [hz]; omega)).trans (Go.heap_alloc_new w _)
  have J0 : Hid (Row w2 w.heap.size 5 60 (blocks init (wb all) 0).f ∧ BufAt w2 g all cap ∧ Below w.heap.size w w2) := Lib.hid ⟨hrow, hbuf, hb0⟩
  have HG := Lib.hid hg
  have hNc : N ≤ cap := by rw [← hN]; exact hbuf.le
  clear hbuf hg hbel hz hb0 hrow hall hN ho2 HP
  go_loopw [4] (fun i wr => ∃ k : Nat, 64 * k ≤ N ∧ i = .int .i64 ((64 * k : Nat) : Int) ∧ Hid (Row wr w.heap.size 5 60 (blocks init (wb all) k).f ∧ BufAt wr g all cap ∧ Below w.heap.size w wr)) (fun i _ => N - (intOf i).toNat)
  case atStart => exact ⟨0, by omega, rfl, J0⟩
  case round =>
    clear J0
    obtain ⟨k, hk, rfl, J⟩ := hrel
    obtain ⟨p, hp⟩ : ∃ p, 64 * k = p := ⟨_, rfl⟩
    obtain ⟨S, hS⟩ : ∃ S, blocks init (wb all) k = S := ⟨_, rfl⟩
    rw [hS] at J
    rw [hp] at hk ⊢
    have HS := Lib.hid hS
    have HP := Lib.hid hp
    by_cases hlt : p < N
    · have hpN : p + 64 ≤ N := by omega
      have c0 : wr.cell? ⟨w.heap.size, 0, none⟩ = some (.int .u32 (iv S.a)) := J.out.1.cell (j := 0) (by omega)
      have c1 : wr.cell? ⟨w.heap.size, 1, none⟩ = some (.int .u32 (iv S.b)) := J.out.1.cell (j := 1) (by omega)
      have c2 : wr.cell? ⟨w.heap.size, 2, none⟩ = some (.int .u32 (iv S.c)) := J.out.1.cell (j := 2) (by omega)
      have c3 : wr.cell? ⟨w.heap.size, 3, none⟩ = some (.int .u32 (iv S.d)) := J.out.1.cell (j := 3) (by omega)
      have c4 : wr.cell? ⟨w.heap.size, 4, none⟩ = some (.int .u32 (iv S.e)) := J.out.1.cell (j := 4) (by omega)
      have p0 : (0 : Int) ≤ (p : Int) := by omega
      have p1 : IntKind.i64.wrap ((p : Int) + 64) = (p : Int) + 64 := by rw [IntKind.wrap_i64]; omega
      have p2 : (0 : Int) ≤ (p : Int) + 64 := by omega
      have p3 : (p : Int) + 64 ≤ (N : Int) := by omega
      have p4 : (p : Int) + 64 ≤ (cap : Int) := by omega
      have p5 : (p : Int) ≤ (p : Int) + 64 := by omega
      have p6 : ¬ cap = p := by omega
      have p7 : ((p : Int) + 64).toNat = p + 64 := by omega
      clear hS hp
      go_wp2
      refine region_tail 6 (by kernel_rfl) ?_
      simp only [List.take_succ_cons, List.take_zero, List.drop_succ_cons, List.drop_zero]
      repeat still_step
      refine wpStill_nil ?_
      have HC := Lib.hid (spec28' S g p (cap - p) (fun i => wb all (p + i)) wr.drew (fun i => by rw [iv_wb]; have := (all.getD (p + i) 0).toNat_lt; omega) (BufAt.src J.out.2.1 p (by rw [HN.out]; omega)))
      go_wp2_with (go_at_call 28; refine HC.out.mono ?_; rintro e w3 ⟨rfl, hb3⟩; (have J3 : Hid (Row w3 w.heap.size 5 60 S.f ∧ BufAt w3 g all cap ∧ Below w.heap.size w w3) := Lib.hid ⟨Row.old (w := wr.drew) J.out.1 (But.ofBelow (S := []) hb3) (by simp), BufAt.but (w := wr.drew) (bufDrew J.out.2.1) (But.ofBelow (S := []) hb3) (by simp), J.out.2.2.drew.trans (hb3.mono J.out.2.2.size)⟩); have e0 := J3.out.1.cell (j := 0) (by omega); have e1 := J3.out.1.cell (j := 1) (by omega); have e2 := J3.out.1.cell (j := 2) (by omega); have e3 := J3.out.1.cell (j := 3) (by omega); have e4 := J3.out.1.cell (j := 4) (by omega); have f0 := J3.out.1.frozen 0; have f1 := J3.out.1.frozen 1; have f2 := J3.out.1.frozen 2; have f3 := J3.out.1.frozen 3; have f4 := J3.out.1.frozen 4; clear hb3)
      go_roundw
      case rel =>
        have hp := HP.out
        refine ⟨k + 1, by omega, by rw [← hp]; go_num, Lib.hid ⟨?_, J3.out.2.1.but (but5 _ _ _ _ _ _ _) (by simp; have := HG.out; omega), J3.out.2.2.trans ((but5 w3 w.heap.size _ _ _ _ _).below _ J3.out.2.2.size (by simp))⟩⟩
        have e : blocks init (wb all) (k + 1) = block S (fun i => wb all (p + i)) := by rw [← hp, ← HS.out]; rfl
        rw [e]
        exact J3.out.1.set5 _
      case measure => simp [intOf]; omega
    · have hpN : p = N := by omega
      have hS' : hs all = S := by
        unfold hs
        rw [HN.out, ← HS.out, ← hpN, ← HP.out, Nat.mul_div_cancel_left _ (by decide)]
      have hsum : sum s.data.toList = S.l.flatMap be32 := by
        have h2 : s.data.toList.length = s.size := by simp
        unfold sum
        rw [h2, HALL.out, hS']
      have HSUM := Lib.hid hsum
      subst hpN
      have hrow := Lib.hid J.out.1
      have J2 := Lib.hid J.out.2.2
      clear hsum hS' hS HS HP J HALL HN hk hlt HG hN64 hNmax hNc hp
      go_wp2_with (first | refine wpList_load_row rfl 60 (.tmp 3) rfl w.heap.size rfl 60 #[.int .u32 (iv S.a), .int .u32 (iv S.b), .int .u32 (iv S.c), .int .u32 (iv S.d), .int .u32 (iv S.e)] (0, 0) _ hrow.out Try.underlying60 rfl (by kernel_rfl) ?_)
      clear hrow
      go_loopw [6, 26] (fun v i wr => ∃ t : Nat, t ≤ 5 ∧ i = .int .i64 t ∧ ((t = 0 ∧ v = .slice none 0 0 ∧ Hid (Below w.heap.size w wr)) ∨ (0 < t ∧ ∃ g c : Nat, v = .slice (some ⟨g, 0, none⟩) (4 * t) c ∧ Hid (BufAt wr g ((S.l.take t).flatMap be32) c ∧ w.heap.size ≤ g ∧ Below w.heap.size w wr)))) (fun _ i _ => 5 - (intOf i).toNat)
      case atStart => exact ⟨0, by omega, rfl, Or.inl ⟨rfl, rfl, J2⟩⟩
      case round =>
        clear J2
        obtain ⟨t, ht, rfl, hor⟩ := hrel
        obtain rfl | rfl | rfl | rfl | rfl | rfl : t = 0 ∨ t = 1 ∨ t = 2 ∨ t = 3 ∨ t = 4 ∨ t = 5 := by omega
        · obtain ⟨-, rfl, J⟩ := hor.resolve_right (fun h => absurd h.1 (by omega))
          have hix : ∀ W0, (Instr.index 60 (.agg #[.int .u32 (iv S.a), .int .u32 (iv S.b), .int .u32 (iv S.c), .int .u32 (iv S.d), .int .u32 (iv S.e)]) (.int .i64 (((0 : Nat) : Int)))).run Try.prog W0 = .ok (.int .u32 (iv S.a)) W0 := fun _ => by kernel_rfl
          have hix' : ∀ W0, (Instr.index 60 (.agg #[.int .u32 (iv S.a), .int .u32 (iv S.b), .int .u32 (iv S.c), .int .u32 (iv S.d), .int .u32 (iv S.e)]) (.int .i64 0)).run Try.prog W0 = .ok (.int .u32 (iv S.a)) W0 := fun _ => by kernel_rfl
          have lo := iv_lo S.a
          have hi := iv_hi S.a
          go_wp2_with (at_builtin; refine app_nil rfl (.tmp 29) (.tmp 41) rfl rfl wr.heap.size 0 4 4 (be32 S.a) rfl (lit4 wr S.a) rfl (by omega) (by omega) (wr.heap.size + 1) (heap_alloc_size _ _) ?_; intro c2 w2 hb2 hB2)
          have hB3 : Below w.heap.size w w2 := J.out.trans ((((But.refl [] wr).alloc _).trans hB2.out).toBelow.mono J.out.size)
          go_roundw
          case rel => exact ⟨1, by omega, by go_num, Or.inr ⟨by omega, _, c2, rfl, Lib.hid ⟨hb2.out, by have := J.out.size; omega, hB3⟩⟩⟩
          case measure => simp [intOf]
        · obtain ⟨-, g2, c2, rfl, J⟩ := hor.resolve_left (fun h => absurd h.1 (by omega))
          have hix : ∀ W0, (Instr.index 60 (.agg #[.int .u32 (iv S.a), .int .u32 (iv S.b), .int .u32 (iv S.c), .int .u32 (iv S.d), .int .u32 (iv S.e)]) (.int .i64 (((1 : Nat) : Int)))).run Try.prog W0 = .ok (.int .u32 (iv S.b)) W0 := fun _ => by kernel_rfl
          have hix' : ∀ W0, (Instr.index 60 (.agg #[.int .u32 (iv S.a), .int .u32 (iv S.b), .int .u32 (iv S.c), .int .u32 (iv S.d), .int .u32 (iv S.e)]) (.int .i64 1)).run Try.prog W0 = .ok (.int .u32 (iv S.b)) W0 := fun _ => by kernel_rfl
          have lo := iv_lo S.b
          have hi := iv_hi S.b
          go_wp2_with (at_builtin; refine app_buf rfl (.tmp 29) (.tmp 41) rfl g2 (4 * 1) c2 ((S.l.take 1).flatMap be32) rfl rfl (J.out.1.but ((But.refl [] wr).alloc (.cells #[.int .u8 (iv S.b / 16777216), .int .u8 (iv S.b / 65536 % 256), .int .u8 (iv S.b / 256 % 256), .int .u8 (iv S.b % 256)] 5)) (by simp)) wr.heap.size 0 4 4 (be32 S.b) rfl (lit4 wr S.b) rfl (by omega) ?_; intro g3 c3 w2 hb2 hB2 hg2)
          obtain ⟨hg3, hb3⟩ := own_next J.out.2.2 J.out.2.1 hB2 hg2 (J.out.2.2.size)
          go_roundw
          case rel => exact ⟨2, by omega, by go_num, Or.inr ⟨by omega, _, c3, rfl, Lib.hid ⟨hb2.out, hg3, hb3⟩⟩⟩
          case measure => simp [intOf]
        · obtain ⟨-, g2, c2, rfl, J⟩ := hor.resolve_left (fun h => absurd h.1 (by omega))
          have hix : ∀ W0, (Instr.index 60 (.agg #[.int .u32 (iv S.a), .int .u32 (iv S.b), .int .u32 (iv S.c), .int .u32 (iv S.d), .int .u32 (iv S.e)]) (.int .i64 (((2 : Nat) : Int)))).run Try.prog W0 = .ok (.int .u32 (iv S.c)) W0 := fun _ => by kernel_rfl
          have hix' : ∀ W0, (Instr.index 60 (.agg #[.int .u32 (iv S.a), .int .u32 (iv S.b), .int .u32 (iv S.c), .int .u32 (iv S.d), .int .u32 (iv S.e)]) (.int .i64 2)).run Try.prog W0 = .ok (.int .u32 (iv S.c)) W0 := fun _ => by kernel_rfl
          have lo := iv_lo S.c
          have hi := iv_hi S.c
          go_wp2_with (at_builtin; refine app_buf rfl (.tmp 29) (.tmp 41) rfl g2 (4 * 2) c2 ((S.l.take 2).flatMap be32) rfl rfl (J.out.1.but ((But.refl [] wr).alloc (.cells #[.int .u8 (iv S.c / 16777216), .int .u8 (iv S.c / 65536 % 256), .int .u8 (iv S.c / 256 % 256), .int .u8 (iv S.c % 256)] 5)) (by simp)) wr.heap.size 0 4 4 (be32 S.c) rfl (lit4 wr S.c) rfl (by omega) ?_; intro g3 c3 w2 hb2 hB2 hg2)
          obtain ⟨hg3, hb3⟩ := own_next J.out.2.2 J.out.2.1 hB2 hg2 (J.out.2.2.size)
          go_roundw
          case rel => exact ⟨3, by omega, by go_num, Or.inr ⟨by omega, _, c3, rfl, Lib.hid ⟨hb2.out, hg3, hb3⟩⟩⟩
          case measure => simp [intOf]
        · obtain ⟨-, g2, c2, rfl, J⟩ := hor.resolve_left (fun h => absurd h.1 (by omega))
          have hix : ∀ W0, (Instr.index 60 (.agg #[.int .u32 (iv S.a), .int .u32 (iv S.b), .int .u32 (iv S.c), .int .u32 (iv S.d), .int .u32 (iv S.e)]) (.int .i64 (((3 : Nat) : Int)))).run Try.prog W0 = .ok (.int .u32 (iv S.d)) W0 := fun _ => by kernel_rfl
          have hix' : ∀ W0, (Instr.index 60 (.agg #[.int .u32 (iv S.a), .int .u32 (iv S.b), .int .u32 (iv S.c), .int .u32 (iv S.d), .int .u32 (iv S.e)]) (.int .i64 3)).run Try.prog W0 = .ok (.int .u32 (iv S.d)) W0 := fun _ => by kernel_rfl
          have lo := iv_lo S.d
          have hi := iv_hi S.d
          go_wp2_with (at_builtin; refine app_buf rfl (.tmp 29) (.tmp 41) rfl g2 (4 * 3) c2 ((S.l.take 3).flatMap be32) rfl rfl (J.out.1.but ((But.refl [] wr).alloc (.cells #[.int .u8 (iv S.d / 16777216), .int .u8 (iv S.d / 65536 % 256), .int .u8 (iv S.d / 256 % 256), .int .u8 (iv S.d % 256)] 5)) (by simp)) wr.heap.size 0 4 4 (be32 S.d) rfl (lit4 wr S.d) rfl (by omega) ?_; intro g3 c3 w2 hb2 hB2 hg2)
          obtain ⟨hg3, hb3⟩ := own_next J.out.2.2 J.out.2.1 hB2 hg2 (J.out.2.2.size)
          go_roundw
          case rel => exact ⟨4, by omega, by go_num, Or.inr ⟨by omega, _, c3, rfl, Lib.hid ⟨hb2.out, hg3, hb3⟩⟩⟩
          case measure => simp [intOf]
        · obtain ⟨-, g2, c2, rfl, J⟩ := hor.resolve_left (fun h => absurd h.1 (by omega))
          have hix : ∀ W0, (Instr.index 60 (.agg #[.int .u32 (iv S.a), .int .u32 (iv S.b), .int .u32 (iv S.c), .int .u32 (iv S.d), .int .u32 (iv S.e)]) (.int .i64 (((4 : Nat) : Int)))).run Try.prog W0 = .ok (.int .u32 (iv S.e)) W0 := fun _ => by kernel_rfl
          have hix' : ∀ W0, (Instr.index 60 (.agg #[.int .u32 (iv S.a), .int .u32 (iv S.b), .int .u32 (iv S.c), .int .u32 (iv S.d), .int .u32 (iv S.e)]) (.int .i64 4)).run Try.prog W0 = .ok (.int .u32 (iv S.e)) W0 := fun _ => by kernel_rfl
          have lo := iv_lo S.e
          have hi := iv_hi S.e
          go_wp2_with (at_builtin; refine app_buf rfl (.tmp 29) (.tmp 41) rfl g2 (4 * 4) c2 ((S.l.take 4).flatMap be32) rfl rfl (J.out.1.but ((But.refl [] wr).alloc (.cells #[.int .u8 (iv S.e / 16777216), .int .u8 (iv S.e / 65536 % 256), .int .u8 (iv S.e / 256 % 256), .int .u8 (iv S.e % 256)] 5)) (by simp)) wr.heap.size 0 4 4 (be32 S.e) rfl (lit4 wr S.e) rfl (by omega) ?_; intro g3 c3 w2 hb2 hB2 hg2)
          obtain ⟨hg3, hb3⟩ := own_next J.out.2.2 J.out.2.1 hB2 hg2 (J.out.2.2.size)
          go_roundw
          case rel => exact ⟨5, by omega, by go_num, Or.inr ⟨by omega, _, c3, rfl, Lib.hid ⟨hb2.out, hg3, hb3⟩⟩⟩
          case measure => simp [intOf]
        · obtain ⟨-, g2, c2, rfl, J⟩ := hor.resolve_left (fun h => absurd h.1 (by omega))
          have hcv := BufAt.str J.out.1
          have hl : ((S.l.take 5).flatMap be32).length = 4 * 5 := rfl
          rw [hl] at hcv
          go_wp2
          go_ret
          refine ⟨?_, J.out.2.2⟩
          rw [HSUM.out]
          rfl
end Go.Proofs.Ytdlimgghcpbkcaa.sha
