/-
  Proved: the contract of impl.SHA1 (of one piece, and of none).
  Conditions: texts of at most 100000 bytes.
-/
import Derived.Test.YtdlimgghcpbkcaaShaL
import Derived.Test.YtdlimgghcpbkcaaShaZ
namespace Go.Proofs.Ytdlimgghcpbkcaa.sha
open Go.RowKit Mem Go.Great
set_option linter.unusedVariables false

theorem info_bs : (Try.prog.info? 50).map (fun i => (i.zero, i.size, i.bytes)) = some (some (.slice none 0 0), 1, 24) := by kernel_rfl
/-- append of one slice of bytes to nothing. -/
theorem app57 (w : World) (v : Value) (hv : v.oneCell' = true) (N : Nat) (hN : w.cell? ⟨N, 0, none⟩ = some v) (ty : TypeId) :
    ∃ g c' w', (Builtin.append_ #[57, 57] ty #[.slice none 0 0, .slice (some ⟨N, 0, none⟩) 1 1]).run Try.prog w = .ok (.slice (some ⟨g, 0, none⟩) 1 c') w' ∧ w'.cell? ⟨g, 0, none⟩ = some v ∧ But [] w w' := by
  obtain ⟨i, hi, hz, hz1, hz2⟩ := info_parts info_bs
  have hsr : Go.Src Try.prog i.size 57 (.slice (some ⟨N, 0, none⟩) 1 1) 1 [v] w := Go.Src.ofSlice w Try.underlying57 _ 1 1 _ (by rw [hz1]; rfl) (fun j u hu => by
    have hj : j = 0 := by
      have := (List.getElem?_eq_some_iff.1 hu).1
      simp at this; omega
    subst hj
    obtain rfl : v = u := by simpa using hu
    rw [Addr.add_lit]; exact hN) (fun u hu => by
    obtain rfl : u = v := by simpa using hu
    exact hv)
  have hg := run_append_grow_src (P := Try.prog) w 57 57 ty 50 i (.slice none 0 0) Try.underlying57 hi hz none 0 0 [] (by simp [Builtin.firstCells]) _ 1 _ hsr (by omega) (by omega) (by rw [hz2]; decide)
  refine ⟨w.heap.size, _, _, hg, ?_, ((But.refl [] w).drew).alloc _⟩
  have hh := Go.heap_alloc_new w.drew (.cells (([] ++ [v]).toArray ++ Builtin.zeroCells (Value.slice none 0 0).cells (grownCap w (0 + 1) 0 50 - (0 + 1))) 50)
  rw [show w.drew.heap.size = w.heap.size from rfl] at hh
  rw [cell_of_row _ _ 0 _ _ _ hh, Array.getElem?_append_left (by simp)]
  rfl

theorem catch25 (p q : Addr) (w : World) :
    CallsD Try.prog 25 #[.pointer (some p), .pointer (some q)] .returning w fun e u' w' => e = .returned (.tuple #[]) ∧ u' = .returning ∧ w = w' := by
  refine callsD_of_wpS Try.func25 rfl fun c₀ cs hu => ?_
  apply wpS_seq
  apply wpS_region
  simp [wpOpsS, go_sem, recoverD, hu, Try.ntmps25, Exit.thenS]
  refine wpS_cond (t := false) (by simp [Act.eval, Array.replicate]) ?_
  simp only [Bool.false_eq_true, if_false]
  refine wpS_of_wp (wp_skip ?_)
  cases c₀
  simp_all [bodyPostS, results, Try.results25]

/-- The pieces as they are gathered. -/
def Gat (t n : Nat) (l : List UInt8) (v : Value) (wr : World) : Prop :=
  (t = 0 → v = .slice none 0 0) ∧ (t = 1 → ∃ P g cap c', v = .slice (some ⟨P, 0, none⟩) 1 c' ∧ wr.cell? ⟨P, 0, none⟩ = some (.slice (some ⟨g, 0, none⟩) n cap) ∧ g < wr.heap.size ∧ n ≤ cap ∧ ∀ j, j < n → wr.cell? ⟨g, j, none⟩ = some (.int .u8 ((l.getD j 0).toNat : Int)))

theorem gat_zz {t : Nat} {l : List UInt8} {v : Value} {wr : World} (hk : t ≤ 1) (h : Gat t l.length l v wr) : ∃ A' c', v = .slice A' t c' ∧ (t = 1 → ∃ P g cap, A' = some ⟨P, 0, none⟩ ∧ wr.cell? ⟨P, 0, none⟩ = some (.slice (some ⟨g, 0, none⟩) l.length cap) ∧ g < wr.heap.size ∧ l.length ≤ cap ∧ ∀ j, j < l.length → wr.cell? ⟨g, j, none⟩ = some (.int .u8 ((l.getD j 0).toNat : Int))) := by
  by_cases h0 : t = 0
  · subst h0
    exact ⟨none, 0, h.1 rfl, fun e => absurd e (by omega)⟩
  · obtain rfl : t = 1 := by omega
    obtain ⟨P, g, cap, c', rfl, h1, h2, h3, h4⟩ := h.2 rfl
    exact ⟨_, _, rfl, fun _ => ⟨P, g, cap, rfl, h1, h2, h3, h4⟩⟩

set_option maxRecDepth 100000 in
set_option maxHeartbeats 1000000 in
theorem sha10 (k : Nat) (hk : k ≤ 1) (A : Option Addr) (c : Nat) (s : ByteArray) (hsz : s.size ≤ 100000) (w : World) (hl : k = 0 → s.data.toList = [] ∧ A = none ∧ c = 0) (hA : k = 1 → ∃ P, A = some ⟨P, 0, none⟩ ∧ w.cell? ⟨P, 0, none⟩ = some (.string s)) :
    Calls Try.prog 10 #[.slice A k c] w fun e w' => e = .returned (.tuple #[.string ⟨(sum s.data.toList).toArray⟩, .bool true]) ∧ Below w.heap.size w w' := by
  have hmf : ∀ (fn : Fn) (first cap : Array Value) (w : World), (Instr.makeFunc fn first cap).run Try.prog w = .ok (.func fn first cap) w := fun _ _ _ _ => rfl
  obtain ⟨l, hll⟩ : ∃ l, s.data.toList = l := ⟨_, rfl⟩
  have hlen : l.length = s.size := by rw [← hll]; simp
  rw [hll] at hl ⊢
  obtain ⟨W3, hW3⟩ : ∃ W3, (w.alloc (.cells #[.string ⟨#[]⟩] 9)).alloc (.cells #[.bool false] 4) = W3 := ⟨_, rfl⟩
  have b3 : But [] w W3 := hW3 ▸ ((But.refl [] w).alloc _).alloc _
  have s3 : W3.heap.size = w.heap.size + 1 + 1 := by rw [← hW3]; simp
  have h0 : W3.heap[w.heap.size]? = some (.cells #[.string ⟨#[]⟩] 9 (0, 0)) := hW3 ▸ ((But.refl [] _).alloc _).heapAt (Go.heap_alloc_new w _) (by simp)
  have h1 : W3.heap[w.heap.size + 1]? = some (.cells #[.bool false] 4 (0, 0)) := by
    have h := Go.heap_alloc_new (w.alloc (.cells #[.string ⟨#[]⟩] 9)) (.cells #[.bool false] 4)
    have e : (w.alloc (.cells #[.string ⟨#[]⟩] 9)).heap.size = w.heap.size + 1 := by simp
    rw [e] at h
    rw [← hW3]
    exact h
  have H0 := Lib.hid h0
  have H1 := Lib.hid h1
  have B3 := Lib.hid b3
  have S3 := Lib.hid s3
  have HA := Lib.hid hA
  have HL := Lib.hid hl
  have HLEN := Lib.hid hlen
  have HLL := Lib.hid hll
  clear h0 h1 b3 s3 hA hl hlen hll
  go_enter_defers Try.func10, Try.ntmps10
  go_wp2_with (fail)
  clear hW3
  go_loopw [4, 10] (fun v i wr => ∃ t : Nat, t ≤ k ∧ i = .int .i64 t ∧ Hid (Gat t s.size l v wr ∧ Below W3.heap.size W3 wr)) (fun _ i _ => k - (intOf i).toNat)
  case atStart => exact ⟨0, by omega, rfl, Lib.hid ⟨⟨fun _ => rfl, fun h => absurd h (by omega)⟩, Below.refl _ _⟩⟩
  case round =>
    obtain ⟨t, ht, rfl, J⟩ := hrel
    by_cases hlt : t < k
    · have hk1 : k = 1 := by omega
      obtain rfl : t = 0 := by omega
      obtain rfl := J.out.1.1 rfl
      obtain ⟨P, rfl, hp⟩ := HA.out hk1
      have hk0 : (0 : Int) < (k : Int) := by omega
      have hPlt : P < w.heap.size := block_lt_of_cell hp
      have p0 : wr.cell? ⟨P, 0, none⟩ = some (.string s) := ((J.out.2.cell (p := ⟨P, 0, none⟩) (by have := S3.out; show P < _; omega)).trans (B3.out.cell (p := ⟨P, 0, none⟩) hPlt (by simp))).trans hp
      have hcv := Lib.run_convert_string_bytes wr 9 50 5 s Try.underlying9 Try.underlying50 Try.underlying5
      obtain ⟨c1, hc1⟩ : ∃ c1, grownCap wr s.size 0 5 = c1 := ⟨_, rfl⟩
      obtain ⟨W4, hW4⟩ : ∃ W4, Lib.bytesWorld wr 5 s = W4 := ⟨_, rfl⟩
      have hge : s.size ≤ c1 := hc1 ▸ grownCap_ge wr s.size 0 5
      have b4 : But [] wr W4 := hW4 ▸ bytes_but [] wr 5 s
      have z4 : W4.heap.size = wr.heap.size + 1 := hW4 ▸ Lib.bytesWorld_size wr 5 s
      have hc4 : ∀ j, j < s.size → W4.cell? ⟨wr.heap.size, j, none⟩ = some (.int .u8 ((l.getD j 0).toNat : Int)) := fun j hj => by rw [← hW4, ← HLL.out]; exact Lib.bytesWorld_cell wr 5 s j hj
      rw [hc1, hW4] at hcv
      have b5 : But [] W4 (W4.alloc (.cells #[.slice (some ⟨wr.heap.size, 0, none⟩) s.size c1] 50)) := (But.refl [] W4).alloc _
      have n5 : (W4.alloc (.cells #[.slice (some ⟨wr.heap.size, 0, none⟩) s.size c1] 50)).cell? ⟨W4.heap.size, 0, none⟩ = some (.slice (some ⟨wr.heap.size, 0, none⟩) s.size c1) := by
        rw [cell_of_row _ _ 0 _ _ _ (Go.heap_alloc_new W4 _)]; rfl
      obtain ⟨g6, c6, W6, hrun, hcell, b6⟩ := app57 _ _ rfl W4.heap.size n5 57
      have B6 := Lib.hid ((b4.trans b5).trans b6)
      have HC6 := Lib.hid (fun j (hj : j < s.size) => ((b5.trans b6).cell (p := ⟨wr.heap.size, j, none⟩) (by show wr.heap.size < W4.heap.size; omega) (by simp)).trans (hc4 j hj))
      have Z6 : Hid (wr.heap.size < W6.heap.size) := Lib.hid (by have := (b5.trans b6).size; omega)
      have HCELL := Lib.hid hcell
      have HK1 := Lib.hid hk1
      have HJ := Lib.hid J.out.2
      clear b4 b5 b6 z4 hc4 n5 hcell hW4 hc1 hp J hk1
      have HRUN := Lib.hid hrun
      clear hrun
      go_wp2_with (at_builtin; refine app_step rfl (.tmp 14) (.tmp 17) 57 57 rfl _ _ _ rfl rfl HRUN.out ?_)
      go_roundw
      case rel => exact ⟨1, by omega, by go_num, Lib.hid ⟨⟨fun h => absurd h (by omega), fun _ => ⟨_, _, _, _, rfl, HCELL.out, Z6.out, hge, HC6.out⟩⟩, HJ.out.trans (B6.out.toBelow.mono HJ.out.size)⟩⟩
      case measure => have := HK1.out; simp [intOf]; omega
    · obtain rfl : t = k := by omega
      have hg := J.out.1
      have hlen := HLEN.out
      rw [← hlen] at hg
      obtain ⟨A', c', rfl, hz⟩ := gat_zz hk hg
      have HZ := Lib.hid (zz26 t hk A' c' l wr (by omega) (fun h => (HL.out h).1) hz)
      have HJ := Lib.hid J.out.2
      clear hg hlen hz J HA HL
      go_wp2_with (fail)
      refine HZ.out.mono ?_
      rintro e w5 ⟨g5, c5, rfl, h5⟩
      have hs5 : (sum l).length = 20 := rfl
      have hcv := BufAt.str h5.out.1
      rw [hs5] at hcv
      have HB : Hid (Below W3.heap.size W3 w5) := Lib.hid (HJ.out.trans (h5.out.2.mono HJ.out.size))
      have e0 := Below.at HB.out (by have := S3.out; omega) H0.out
      have e1 := Below.at HB.out (by have := S3.out; omega) H1.out
      have k0 : w5.cell? ⟨w.heap.size, 0, none⟩ = some (.string ⟨#[]⟩) := cell_of_row _ _ 0 _ _ _ e0
      have k1 : w5.cell? ⟨w.heap.size + 1, 0, none⟩ = some (.bool false) := cell_of_row _ _ 0 _ _ _ e1
      have f0 : w5.frozen? ⟨w.heap.size, 0, none⟩ = false := frozen_of_row _ _ 0 _ _ e0
      have f1 : w5.frozen? ⟨w.heap.size + 1, 0, none⟩ = false := frozen_of_row _ _ 0 _ _ e1
      obtain ⟨r, hr⟩ : ∃ r : ByteArray, (⟨(sum l).toArray⟩ : ByteArray) = r := ⟨_, rfl⟩
      rw [hr] at hcv
      have HRR := Lib.hid hr
      clear e0 e1 hs5 hr
      go_wp2
      refine leaves_cons (f := 25) (args := #[.pointer (some ⟨w.heap.size, 0, none⟩), .pointer (some ⟨w.heap.size + 1, 0, none⟩)]) (by simp) (by simp [go_sem]) ?_
      refine (catch25 _ _ _).mono ?_
      rintro e u' w'' ⟨rfl, rfl, rfl⟩
      have q0 : (w5.setCell ⟨w.heap.size, 0, none⟩ (.string r)).cell? ⟨w.heap.size, 0, none⟩ = some (.string r) := World.cell?_setCell_same _ _ _ k0
      have q1 : ((w5.setCell ⟨w.heap.size, 0, none⟩ (.string r)).setCell ⟨w.heap.size + 1, 0, none⟩ (.bool true)).cell? ⟨w.heap.size + 1, 0, none⟩ = some (.bool true) :=
        World.cell?_setCell_same _ _ _ ((World.cell?_setCell_other _ _ _ _ (by simp)).trans k1)
      simp [Leaves, settle, results, Try.results10, go_sem, q0, q1]
      have z1 := B3.out.size
      have c2 : Below w.heap.size w w5 := B3.out.toBelow.trans (HB.out.mono z1)
      exact ⟨HRR.out.symm, (c2.setCell (Nat.le_refl _) _).setCell (by simp) _⟩
end Go.Proofs.Ytdlimgghcpbkcaa.sha
