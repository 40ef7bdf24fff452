/-
  Proved: the contract of impl.LenRead: it returns the list of what is left at first and behind each read.
  Conditions: a text of at most 2000 bytes, n from -5000 to 5000, at most 50 sizes, each of at most 5000.
-/
import Derived.Test.YtciicifdehicgaaLenW
namespace Go.Proofs.Ytciicifdehicgaa.lenr
open Go.RowKit Mem
set_option linter.unusedVariables false

theorem nil_read2 (a : Addr) (w : World) : (nilAhead 192 60 (.pointer (some a)) "Read").run Try.prog w = .ok (some false) w := by kernel_rfl
theorem made_at (w : World) (m j : Nat) (hj : j < m) : ((w.alloc (.cells (madeCells #[.int .u8 0] m) 5)).drew.cell? ⟨w.heap.size, j, none⟩).isSome = true ∧ (w.alloc (.cells (madeCells #[.int .u8 0] m) 5)).drew.frozen? ⟨w.heap.size, j, none⟩ = false := by
  have hh := heap_alloc_new w (.cells (madeCells #[.int .u8 0] m) 5)
  refine ⟨?_, frozen_of_row _ _ j _ _ hh⟩
  show ((w.alloc (.cells (madeCells #[.int .u8 0] m) 5)).cell? ⟨w.heap.size, j, none⟩).isSome = true
  rw [cell_of_row _ _ j _ _ _ hh]
  simp [madeCells, hj]

/-- The read of one round, at the buffer that it makes. -/
theorem readRound {w0 wr : World} {V O L R B m : Nat} {left : ByteArray} {l : Int} {v ev : Value} {xs : List Value} (h : St w0 wr V O L R B left l v xs) (n : Nums w0 V O L R B) (hg : w0.cell? ⟨1, 0, none⟩ = some ev)
    (hl2 : left.size ≤ 2147483647) (hm : m ≤ 5000) (hb1 : -1000000 ≤ l) (hb2 : l ≤ 1000000) :
    Calls Try.prog 45 #[.pointer (some ⟨L, 0, none⟩), .slice (some ⟨wr.heap.size, 0, none⟩) m m] (wr.alloc (.cells (madeCells #[.int .u8 0] m) 5)).drew fun e w' => (∃ x, e = .returned x) ∧
      St w0 w' V O L R B (left.extract (came m left) left.size) (l - came m left) v xs := by
  have hba : But [] wr (wr.alloc (.cells (madeCells #[.int .u8 0] m) 5)).drew := ((But.refl _ _).alloc _).drew
  have hB := h.hB
  have n1 := n.rB
  have n2 := n.lB
  have n3 := n.vB
  have n4 := n.oB
  refine (read45 L R wr.heap.size m l left _ ev (h.ln.but hba (by simp)) (h.rd.but hba (by simp)) ((h.but.trans hba).cellAt hg (by simp)) hl2 hm (by omega) (by omega) n.lr hb1 hb2
    (fun j hj => (made_at wr m j hj).1) (fun j hj => (made_at wr m j hj).2)).mono ?_
  rintro e w' ⟨hx, hln, hrd, hbut⟩
  have hq : But [L, R, wr.heap.size] wr w' := (hba.mono (by simp)).trans hbut
  have out : ∀ k, k < B → k ≠ L → k ≠ R → k ∉ [L, R, wr.heap.size] := fun k hk h1 h2 => by simp [h1, h2]; omega
  refine ⟨hx, hrd, hln, hq.cellAt h.vc (out V n3 n.vl n.vr), ?_, hq.cellAt h.oc (out O n4 n.ol n.or), ?_, ?_, ?_, ?_⟩
  · exact (hq.frozen (p := ⟨V, 0, none⟩) (block_lt_of_cell h.vc) (out V n3 n.vl n.vr)).trans h.vf
  · exact (hq.frozen (p := ⟨O, 0, none⟩) (block_lt_of_cell h.oc) (out O n4 n.ol n.or)).trans h.of
  · refine ⟨h.own.1, ?_⟩
    rcases h.own.2 with hn' | ⟨g, cap, cur, hv, hb, hgg, rest⟩
    · exact .inl hn'
    · refine .inr ⟨g, cap, cur, hv, hb, ?_, rest⟩
      have := (Array.getElem?_eq_some_iff.1 hgg).1
      exact hq.heapAt hgg (by simp; omega)
  · refine h.but.join hq (fun _ e => e) (fun k e hk => ?_)
    have := n.l0
    have := n.r0
    have := h.but.size
    simp at e
    omega
  · have := hq.size
    omega

theorem catch20 (p q : Addr) (w : World) :
    CallsD Try.prog 20 #[.pointer (some p), .pointer (some q)] .returning w fun e u' w' => e = .returned (.tuple #[]) ∧ u' = .returning ∧ w = w' := by
  refine callsD_of_wpS Try.func20 rfl fun c₀ cs hu => ?_
  apply wpS_seq
  apply wpS_region
  simp [wpOpsS, go_sem, recoverD, hu, Try.ntmps20, Exit.thenS]
  refine wpS_cond (t := false) (by simp [Act.eval, Array.replicate]) ?_
  simp only [Bool.false_eq_true, if_false]
  refine wpS_of_wp (wp_skip ?_)
  cases c₀
  simp_all [bodyPostS, results, Try.results20]

/-- What impl.LenRead leaves. -/
def LenOut (w : World) (ls : List Int) (e : Ending) (w' : World) : Prop :=
  ∃ v B, e = .returned (.tuple #[v, .bool true]) ∧ w'.ownsRow B 3 1 v ls.length (ls.map (Value.int .i64)) ∧ But [] w w'

/-- Behind the last stores. -/
theorem St.ends {w0 w : World} {V O L R B : Nat} {left : ByteArray} {l : Int} {v : Value} {ls : List Int} (h : St w0 w V O L R B left l v (ls.map (Value.int .i64))) (n : Nums w0 V O L R B) :
    LenOut w0 ls (.returned (.tuple #[v, .bool true])) ((w.setCell ⟨V, 0, none⟩ v).setCell ⟨O, 0, none⟩ (.bool true)) := by
  refine ⟨v, B, rfl, ?_, (h.but.setCell (Or.inr n.v0) _).setCell (Or.inr n.o0) _⟩
  have g : ∀ (w : World) (k : Nat) (u : Value), w.grownBy (w.setCell ⟨k, 0, none⟩ u) (some k) := fun w k u =>
    ⟨rfl, rfl, rfl, by simp [World.setCell], fun i hi hne => Below.heap_setCell _ _ _ _ (fun e => hne (by rw [e]))⟩
  have own := h.own
  rw [List.length_map] at own
  have o1 := own.kept (g w V v) (Or.inr (Ne.symm (ownBlock_ne own n.vB)))
  exact o1.kept (g _ O (.bool true)) (Or.inr (Ne.symm (ownBlock_ne o1 n.oB)))

set_option maxRecDepth 100000 in
set_option maxHeartbeats 4000000 in
theorem lenRead13 (s : ByteArray) (n : Int) (a : Option Addr) (A off cap : Nat) (zs : List Int) (w : World) (ev : Value) (hg : w.cell? ⟨1, 0, none⟩ = some ev)
    (hs : s.size ≤ 2000) (hn1 : -5000 ≤ n) (hn2 : n ≤ 5000) (hlen : zs.length ≤ 50) (hz : ∀ z ∈ zs, z ≤ 5000) (hz2 : ∀ z ∈ zs, -9223372036854775808 ≤ z)
    (ha : zs.length = 0 ∨ a = some ⟨A, off, none⟩) (hA : ∀ j, j < zs.length → w.cell? ⟨A, off + j, none⟩ = some (.int .i64 (zs.getD j 0))) :
    Calls Try.prog 13 #[.string s, .int .i64 n, .slice a zs.length cap] w (LenOut w (stateL s n zs).2.2) := by
  have hmf : ∀ (fn : Fn) (first cap : Array Value) (w : World), (Instr.makeFunc fn first cap).run Try.prog w = .ok (.func fn first cap) w := fun _ _ _ _ => rfl
  obtain ⟨i0, hi0, hz0, hz1, hz2'⟩ := info_parts Try.info3
  have hW : ((w.alloc (.cells #[.slice none 0 0] 34)).alloc (.cells #[.bool false] 4)).heap.size = w.heap.size + 1 + 1 := by simp
  have HA := Lib.hid hA
  have HAA := Lib.hid ha
  clear ha
  have HZ := Lib.hid hz
  have HZ2 := Lib.hid hz2
  have HG := Lib.hid hg
  clear hA hz hz2 hg
  go_enter_defers Try.func13, Try.ntmps13
  go_wp2_with fail
  refine (new22 _ _).mono ?_
  rintro e w1 ⟨rfl, hr1, hb1⟩
  have HR1 := Lib.hid hr1
  have HB1 := Lib.hid hb1
  clear hr1 hb1
  go_wp2_with fail
  refine (new21 _ _ _).mono ?_
  rintro e w2 ⟨rfl, hl2, hb2⟩
  rw [← hW] at hl2
  obtain ⟨hst, hn⟩ := St.start s n w w1 w2 _ rfl HR1.out HB1.out hl2 hb2
  rw [hW] at hst hn
  clear HR1 HB1 hl2 hb2 hW
  have e1 : w.heap.size + 1 < w2.heap.size := hn.oB
  have e2 : w.heap.size < w2.heap.size := hn.vB
  have e3 : w1.heap.size < w2.heap.size := hn.lB
  have e4 : w.heap.size + 1 + 1 < w2.heap.size := hn.rB
  have hml := method_len ⟨w1.heap.size, 0, none⟩
  have HST := Lib.hid hst
  have HN := Lib.hid hn
  have hv := hst.vc
  have hvf := hst.vf
  have hn0 : ¬ w.heap.size = w2.heap.size := by omega
  clear hst hn
  go_wp2_with fail
  have hva : ∀ o, (w2.alloc o).cell? ⟨w.heap.size, 0, none⟩ = some (.slice none 0 0) := fun o => ((But.refl [] w2).alloc o).cellAt hv (by simp)
  go_cut [] from 17 to 21 (fun wx => ∃ v, St w wx w.heap.size (w.heap.size + 1) w1.heap.size (w.heap.size + 1 + 1) w2.heap.size s n v [.int .i64 n])
  case first =>
    refine wp_region_noPanic ?_
    go_region_law (first | (refine step_append_lies _ (by rfl) _ _ _ (by rfl) w2.heap.size 3 i0 _ 1 8 Try.underlying34 hi0 hz0 hz1 hz2' rfl (by omega) (.slice none 0 0) 0 [] (by rfl) (World.ownsRow_nil _ _ _ _) ⟨w2.heap.size, 0, none⟩ 1 1 [.int .i64 n] (by rfl) (by rfl) (World.news_of_block (cs := #[.int .i64 n]) (t := 3) (fr := (0, 0)) (heap_alloc_new w2 _)) (by simp [Value.oneCell']) (by omega) (by unfold maxLen; omega) (by omega) (by simp) (w2.heap.size + 1) (by simp) ?_; intro gg cap w3 hown3 hgrow hat hlt; obtain ⟨hv3, hvf3⟩ := keepG hgrow (keepA hv hvf _ _).1 (keepA hv hvf _ _).2 (by simp [Value.ownBlock])) | (go_simp; go_at_call 44; refine (len44 _ (w.heap.size + 1 + 1) n _ ?_).mono ?_; (exact HST.out.ln.but (But.refl [] _).drew (by simp)); rintro e w' ⟨rfl, rfl⟩))
    all_goals (refine NoPanic.normal ?_; go_wp2_with fail; go_meet; exact ⟨_, HST.out.appended HN.out ((But.refl [] w2).alloc _).drew hown3 hgrow⟩)
  case rest =>
    obtain ⟨v1, hst1⟩ := hcut
    have HST1 := Lib.hid hst1
    clear hst1 HST hva hv hvf hml
    have hmr := method_read2 ⟨w1.heap.size, 0, none⟩
    have hml := method_len ⟨w1.heap.size, 0, none⟩
    have hna := nil_read2 ⟨w1.heap.size, 0, none⟩
    go_wp2_with fail
    go_loopw [24] (fun i wr => ∃ k : Nat, k ≤ zs.length ∧ i = .int .i64 k ∧ ∃ v, St w wr w.heap.size (w.heap.size + 1) w1.heap.size (w.heap.size + 1 + 1) w2.heap.size (stateL s n (zs.take k)).1 (stateL s n (zs.take k)).2.1 v ((stateL s n (zs.take k)).2.2.map (Value.int .i64))) (fun i _ => zs.length - (intOf i).toNat)
    case atStart => exact ⟨0, Nat.zero_le _, rfl, v1, HST1.out⟩
    case round =>
      obtain ⟨k, hk, rfl, v, hst⟩ := hrel
      by_cases hlt : k < zs.length
      · rcases HAA.out with h0 | rfl
        · omega
        clear HAA
        obtain ⟨i1, i2, i3⟩ := stateL_inv s n zs k hk
        have hcz := hst.but.cellAt (HA.out k hlt) (by simp)
        have hz5 : zs.getD k 0 ≤ 5000 := HZ.out _ (by simp [List.getD, List.getElem?_eq_getElem hlt])
        have hzl : -9223372036854775808 ≤ zs.getD k 0 := HZ2.out _ (by simp [List.getD, List.getElem?_eq_getElem hlt])
        have HSN := Lib.hid (stateL_snoc s n zs k hlt)
        generalize stateL s n (zs.take k) = st at *
        obtain ⟨left, l, ls⟩ := st
        simp only at i1 i2 i3 hst
        generalize zs.getD k 0 = z at *
        have hSN := HSN.out
        unfold stepL at hSN
        simp only at hSN
        have HSN' := Lib.hid hSN
        clear hSN HSN
        have HS := Lib.hid hst
        clear hst
        have HI3 := Lib.hid i3
        clear i3
        have hmx : max (0 : Int) z = (z.toNat : Int) := by omega
        have hm5 : z.toNat ≤ 5000 := by omega
        generalize z.toNat = m at *
        have hmk := run_make_row' (P := Try.prog) 32 5 (.int .u8 0) 1 Try.underlying32 (by kernel_rfl) rfl .i64 .i64 m (by omega) (by omega)
        go_wp2_with fail
        go_cut [24] from 24 to 41 (fun i wx => i = .int .i64 k ∧ St w wx w.heap.size (w.heap.size + 1) w1.heap.size (w.heap.size + 1 + 1) w2.heap.size (left.extract (came m left) left.size) (l - came m left) v (ls.map (Value.int .i64)))
        case first =>
          have RD := Lib.hid (readRound HS.out HN.out HG.out (by omega) hm5 (by omega) (by omega))
          go_region_held3 (fun _ => True) (exact trivial) (first | (go_at_call 45; refine RD.out.mono ?_; rintro e w' ⟨⟨x, rfl⟩, hst'⟩))
          all_goals (go_wp2_with fail; go_meet; exact ⟨rfl, hst'⟩)
        case rest =>
          obtain ⟨rfl, hst2⟩ := hcut
          have hls : (ls.map (Value.int .i64)).length = k + 1 := by rw [List.length_map]; exact HI3.out
          clear hmr hna hmk
          generalize left.extract (came m left) left.size = left' at *
          generalize l - (came m left : Int) = l' at *
          have hv := hst2.vc
          have hvf := hst2.vf
          have hva : ∀ o, (wc.alloc o).cell? ⟨w.heap.size, 0, none⟩ = some v := fun o => ((But.refl [] wc).alloc o).cellAt hv (by simp)
          have HS2 := Lib.hid hst2
          clear hst2
          go_wp2_with fail
          refine wp_region_noPanic ?_
          have hbw := HS2.out.hB
          go_region_law (first | (refine step_append_lies _ (by rfl) _ _ _ (by rfl) w2.heap.size 3 i0 _ 1 8 Try.underlying34 hi0 hz0 hz1 hz2' rfl (by omega) v _ (ls.map (Value.int .i64)) (by rfl) ((HS2.out.own.alloc _).drew) ⟨wc.heap.size, 0, none⟩ 1 1 [.int .i64 l'] (by rfl) (by rfl) (World.news_of_block (cs := #[.int .i64 l']) (t := 3) (fr := (0, 0)) (heap_alloc_new wc _)) (by simp [Value.oneCell']) (by omega) (by rw [hls]; unfold maxLen; omega) (by rw [hls]; omega) (by simp; omega) (wc.heap.size + 1) (by simp) ?_; intro gg cap w3 hown3 hgrow hat hlt; obtain ⟨hv3, hvf3⟩ := keepG hgrow (keepA hv hvf _ _).1 (keepA hv hvf _ _).2 (ownBlock_ne HS2.out.own e2)) | (go_simp; go_at_call 44; refine (len44 _ (w.heap.size + 1 + 1) l' _ ?_).mono ?_; (exact HS2.out.ln.but (But.refl [] _).drew (by simp)); rintro e w' ⟨rfl, rfl⟩))
          all_goals
            refine NoPanic.normal ?_
            have hst3 := HS2.out.appended HN.out ((But.refl [] wc).alloc _).drew hown3 hgrow
            rw [hls] at hst3
            have HS3 := Lib.hid hst3
            clear hst3 hown3 hgrow
            go_wp2
            go_roundw
            case rel => exact ⟨k + 1, by omega, by go_num, _, by rw [HSN'.out]; simpa using HS3.out⟩
            case measure => simp [intOf]; omega
      · have : k = zs.length := by omega
        subst this
        rw [List.take_length] at hst
        obtain ⟨va, vn, vcap, rfl⟩ : ∃ va vn vcap, v = .slice va vn vcap := by
          rcases hst.own.2 with ⟨h, _⟩ | ⟨g, c, cur, h, _⟩
          · exact ⟨_, _, _, h⟩
          · exact ⟨_, _, _, h⟩
        have hv := hst.vc
        have hvf := hst.vf
        have ho := hst.oc
        have hof := hst.of
        have HS := Lib.hid hst
        clear hst
        go_wp2
        refine leaves_cons (f := 20) (args := #[.pointer (some ⟨w.heap.size, 0, none⟩), .pointer (some ⟨w.heap.size + 1, 0, none⟩)]) (by simp) (by simp [go_sem]) ?_
        refine (catch20 _ _ _).mono ?_
        rintro e u' w'' ⟨rfl, rfl, rfl⟩
        have hend := HS.out.ends HN.out
        have q0 : (wr.setCell ⟨w.heap.size, 0, none⟩ (.slice va vn vcap)).cell? ⟨w.heap.size, 0, none⟩ = some (.slice va vn vcap) := World.cell?_setCell_same _ _ _ hv
        have q1 : ((wr.setCell ⟨w.heap.size, 0, none⟩ (.slice va vn vcap)).setCell ⟨w.heap.size + 1, 0, none⟩ (.bool true)).cell? ⟨w.heap.size + 1, 0, none⟩ = some (.bool true) :=
          World.cell?_setCell_same _ _ _ ((World.cell?_setCell_other _ _ _ _ (by simp)).trans ho)
        simp [Leaves, settle, results, Try.results13, go_sem, q0, q1]
        exact hend
end Go.Proofs.Ytciicifdehicgaa.lenr
