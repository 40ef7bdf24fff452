/-
  Proved: the contracts of DoorTakeEsc and DoorPlace.
  Conditions: a decoder in memory.
-/
import Derived.Test.YtlcbcgillekphaaDoorDfa
import Derived.Test.YtlcbcgillekphaaDoorSed
import Derived.Test.YtlcbcgillekphaaDoorEscN
namespace Go.Proofs.YtlcbcgillekphaaDoor.dec
open Go.RowKit Mem rw
set_option linter.unusedVariables false

theorem rev0 : ∀ x : Fin 256, esc.rev 0 (UInt8.ofNat x.val) = dm.rv 0 (UInt8.ofNat x.val) := by decide +kernel
theorem rev1 : ∀ x : Fin 256, esc.rev 1 (UInt8.ofNat x.val) = dm.rv 1 (UInt8.ofNat x.val) := by decide +kernel
theorem rev2 : ∀ x : Fin 256, esc.rev 2 (UInt8.ofNat x.val) = dm.rv 2 (UInt8.ofNat x.val) := by decide +kernel
theorem rev3 : ∀ x : Fin 256, esc.rev 3 (UInt8.ofNat x.val) = dm.rv 3 (UInt8.ofNat x.val) := by decide +kernel
theorem rev4 : ∀ x : Fin 256, esc.rev 4 (UInt8.ofNat x.val) = dm.rv 4 (UInt8.ofNat x.val) := by decide +kernel
theorem rev_rv (k : Nat) (hk : k ≤ 4) (c : UInt8) : esc.rev (k : Int) c = dm.rv k c := by
  have e : c = UInt8.ofNat (⟨c.toNat, c.toNat_lt⟩ : Fin 256).val := by simp
  rw [e]
  obtain rfl | rfl | rfl | rfl | rfl : k = 0 ∨ k = 1 ∨ k = 2 ∨ k = 3 ∨ k = 4 := by omega
  · exact rev0 _
  · exact rev1 _
  · exact rev2 _
  · exact rev3 _
  · exact rev4 _
theorem esc_tab {w : World} {E : Nat} {k : Nat} (hk : k ≤ 4) (h : esc.EscAt w E k) : ∃ l T, Rw w E l T ∧ ∀ c : UInt8, l[256 + c.toNat]? = some (.int .u8 ((dm.rv k c).toNat : Int)) := by
  refine ⟨_, _, h, fun c => ?_⟩
  have hc := c.toNat_lt
  rw [List.getElem?_append_left (by simp; omega), List.getElem?_append_right (by simp)]
  simp only [List.length_map, List.length_range, Nat.add_sub_cancel_left, List.getElem?_map]
  rw [List.getElem?_range (by omega)]
  simp only [Option.map_some]
  rw [show UInt8.ofNat c.toNat = c by simp, rev_rv k hk c]
theorem place17 (G : Cfg) (hG : Base G) (L : Lay) (w : World) (h : DL G L w) :
    Calls Tryd.prog 17 #[.pointer (some ⟨G.D, 0, none⟩)] w fun e w' => e = .returned (.tuple #[.int .i64 ((L.r1 - L.r0 : Nat) : Int), .int .i64 (L.line : Int)]) ∧ ∃ n, w.drewN n = w' := by
  obtain ⟨c0, c1, c2, c3, c4, c5, c6, c7, c8, c9⟩ := h.cells
  have hl := h.lenle hG
  have h1l := h.r1l
  have h01 := h.r01
  obtain ⟨st, hst⟩ : ∃ st, L.r1 - L.r0 = st := ⟨_, rfl⟩
  have hw : IntKind.i64.wrap ((L.r1 : Int) - (L.r0 : Int)) = (st : Int) := by rw [IntKind.wrap_i64]; omega
  rw [hst]
  clear h hG hst c0 c1 c4 c5 c6 c7 c9
  go_enter Tryd.func17, Tryd.ntmps17
  go_wp2
  go_quiet (fail)
  go_wp2
  go_ret2
  exact ⟨rfl, _, rfl⟩
def five : Array Value := #[.int .i64 5, .int .i64 2, .int .i64 6, .int .i64 7, .int .i64 8]
theorem five_at (k : Nat) (hk : k ≤ 4) (wx : World) : (wx.alloc (.cells five 3)).cell? ⟨wx.heap.size, k, none⟩ = some (.int .i64 (dm.setOf k : Nat)) := by
  rw [cell_of_row _ _ k _ _ _ (heap_alloc_new wx _)]
  obtain rfl | rfl | rfl | rfl | rfl : k = 0 ∨ k = 1 ∨ k = 2 ∨ k = 3 ∨ k = 4 := by omega
  all_goals rfl
theorem not_own {G : Cfg} {L : Lay} {w : World} {X : Nat} (h : DL G L w) (hX : w.heap.size ≤ X) : X ∉ own G L := fun hx => by
  rw [mem_own] at hx
  have h1 := Rw.lt h.row
  have h2 := h.esc.lt
  have h3 := h.rlt
  rcases hx with e | e | e | ⟨hn, e⟩
  · omega
  · omega
  · omega
  · have := (h.buf hn).1.lt; omega
def DteOut (G : Cfg) (k : Nat) (L : Lay) (e : Ending) (w' : World) : Prop :=
  ∃ a n c v, e = .returned (.tuple #[.slice a n c, v]) ∧ Hid (∃ w2 L' o m, Escd G L w2 (dm.inS (dm.setOf k)) (dm.rv k) L' w' o m a n v)
set_option maxRecDepth 100000 in
theorem dte16 (G : Cfg) (hG : Base G) (L : Lay) (w : World) (h : DL G L w) (k : Nat) (hk : k ≤ 4) (b : Bool) (hel : L.esc.length ≤ 50000) (hln : L.line ≤ 500000) :
    Calls Tryd.prog 16 #[.pointer (some ⟨G.D, 0, none⟩), .int .i64 k, .bool b] w (DteOut G k { L with sk := b }) := by
  obtain ⟨c0, c1, c2, c3, c4, c5, c6, c7, c8, c9⟩ := h.cells
  have z6 := Rw.fz h.row 6
  obtain ⟨Lb, hLb⟩ : ∃ Lb, ({ L with sk := b } : Lay) = Lb := ⟨_, rfl⟩
  have hp := h.put (L' := Lb) 6 (.bool b) (by rw [← hLb]; rfl) (by rw [← hLb]; exact ⟨rfl, rfl, rfl, rfl, rfl, rfl, rfl, rfl, rfl, rfl⟩) (by rw [← hLb]; exact fun e => (h.nbz e).2.1) (by rw [← hLb]; exact h.r01) (by rw [← hLb]; exact h.r1l) (by rw [← hLb]; exact h.line) hG
  have hel2 : Lb.esc.length ≤ 50000 := by rw [← hLb]; exact hel
  have hln2 : Lb.line ≤ 500000 := by rw [← hLb]; exact hln
  rw [hLb]
  obtain ⟨w1, hw1⟩ : ∃ w1, w.setCell ⟨G.D, 6, none⟩ (.bool b) = w1 := ⟨_, rfl⟩
  rw [hw1] at hp
  have hset : dm.setOf k ≤ 13 := by
    obtain rfl | rfl | rfl | rfl | rfl : k = 0 ∨ k = 1 ∨ k = 2 ∨ k = 3 ∨ k = 4 := by omega
    all_goals decide
  have hk5 : (k : Int) < 5 := by omega
  have hk0 : (0 : Int) ≤ (k : Int) := by omega
  obtain ⟨w2, hw2⟩ : ∃ w2, w1.alloc (.cells five 3) = w2 := ⟨_, rfl⟩
  have hx2 : ∀ wx : World, (wx.alloc (.cells #[.int .i64 5, .int .i64 2, .int .i64 6, .int .i64 7, .int .i64 8] 3)).cell? ⟨wx.heap.size, k, none⟩ = some (.int .i64 (dm.setOf k : Nat)) := five_at k hk
  have hb2 : But [] w1 w2 := hw2 ▸ (But.refl [] w1).alloc _
  have H2 := Lib.hid (hp.1.quiet hb2).1
  have HG := Lib.hid hG
  subst hw1
  subst hw2
  have HS := Lib.hid (set.doorSet (dm.setOf k) hset ((w.setCell ⟨G.D, 6, none⟩ (.bool b)).alloc (.cells #[.int .i64 5, .int .i64 2, .int .i64 6, .int .i64 7, .int .i64 8] 3)))
  obtain ⟨so, hso⟩ : ∃ so, dm.setOf k = so := ⟨_, rfl⟩
  rw [hso] at hx2 HS
  have hx3 := hx2 (w.setCell ⟨G.D, 6, none⟩ (.bool b))
  rw [set_size] at hx3
  clear hx2
  have HE := Lib.hid (And.intro hel2 hln2)
  have HSO := Lib.hid hso
  clear h hG hp hset hb2 hel hln hLb hel2 hln2 hso c0 c1 c2 c3 c4 c5 c7 c8 c9
  go_enter Tryd.func16, Tryd.ntmps16
  go_wp2_with fail
  refine HS.out.mono ?_
  rintro e w3 ⟨R, rfl, hR⟩
  have HR := Lib.hid hR
  clear hR HS
  go_wp2_with fail
  refine (esc.door_esc (k : Int) hk0 (by omega) w3).mono ?_
  rintro e w4 ⟨rfl, he, hbe⟩
  have hd3 := H2.out.quiet (But.ofBelow (S := []) HR.out.2.2)
  have hd4 := hd3.1.quiet (But.ofBelow (S := []) hbe)
  have hT : Tab G Lb w4 w3.heap.size (dm.rv k) := ⟨esc_tab hk he, not_own hd3.1 (Nat.le_refl _)⟩
  have hS3 : SetB G Lb w3 R (dm.inS (dm.setOf k)) := ⟨⟨_, HR.out.2.1, fun c => by rw [← HSO.out]; exact set.inN_byte _ c⟩, not_own H2.out HR.out.1⟩
  have HC := Lib.hid (esc27 G HG.out Lb w4 hd4.1 R w3.heap.size _ _ (hS3.step hd4.2.toStep) hT HE.out.1 HE.out.2)
  clear he hbe hd3 hd4 hT hS3
  go_wp2_with fail
  refine HC.out.mono ?_
  rintro e w5 ⟨a, n, c, v, rfl, hO⟩
  go_wp2_with fail
  go_ret2
  exact ⟨a, n, c, v, rfl, Lib.hid (by
    obtain ⟨L', o, m, hE⟩ := hO.out
    exact ⟨w4, L', o, m, hE⟩)⟩
end Go.Proofs.YtlcbcgillekphaaDoor.dec
