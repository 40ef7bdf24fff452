/-
  Proved: the contracts of (*digest).Sum and ZZSums (of one piece, and of none).
  Conditions: texts of at most 100000 bytes.
-/
import Derived.Test.YtdlimgghcpbkcaaShaK
namespace Go.Proofs.Ytdlimgghcpbkcaa.sha
open Go.RowKit Mem Go.Great
set_option linter.unusedVariables false

set_option maxRecDepth 100000 in
set_option maxHeartbeats 1000000 in
theorem sum42 (X : Nat) (l : List UInt8) (x : List UInt8) (w : World) (hT : Took w X l l.length x) (hmax : l.length ≤ 100000) :
    Calls Try.prog 42 #[.pointer (some ⟨X, 0, none⟩), .slice none 0 0] w fun e w' => ∃ g c, e = .returned (.slice (some ⟨g, 0, none⟩) 20 c) ∧ Hid (BufAt w' g (sum l) c ∧ Below w.heap.size w w') := by
  obtain ⟨DS, hDS⟩ : ∃ DS, (dl (hs l) x (l.length % 64) l.length).toArray = DS := ⟨_, rfl⟩
  have hrow := hT.dig.row
  rw [hDS] at hrow
  have HROW := Lib.hid hrow
  have HDS : Hid (DS.size = 71) := Lib.hid (by rw [← hDS, List.size_toArray, dl_length, hT.dig.hx])
  have HDA : Hid (DS.all (·.oneCell') = true) := Lib.hid (by rw [← hDS]; exact dl_all _ _ _ _)
  have hck : ∀ W X', W.heap[X']? = some (.cells DS 132 (0, 0)) → Calls Try.prog 59 #[.pointer (some ⟨X', 0, none⟩)] W fun e w' => e = .returned (.agg (Lib.byteCells (sum l)).toArray) ∧ But [X'] W w' :=
    fun W X' h => check59 X' l x W ⟨⟨by rw [hDS]; exact h, hT.dig.hx⟩, hT.buf⟩ hmax
  obtain ⟨CS, hCS⟩ : ∃ CS, (Lib.byteCells (sum l)).toArray = CS := ⟨_, rfl⟩
  rw [hCS] at hck
  have HSZ : Hid (CS.size = 20) := Lib.hid (by rw [← hCS, List.size_toArray, Lib.byteCells_length]; rfl)
  have HALL : Hid (CS.all (·.oneCell') = true) := Lib.hid (by rw [← hCS]; exact cs_all _)
  have hsrc : ∀ (W : World) (N : Nat), W.heap[N]? = some (.cells CS 134 (0, 0)) → ∀ j b, (sum l)[j]? = some b → W.cell? ⟨N, 0 + j, none⟩ = some (.int .u8 (b.toNat : Int)) := by
    intro W N h j b hb
    rw [Nat.zero_add, cell_of_row _ _ j _ _ _ h, ← hCS]
    simp [Lib.byteCells, hb]
  have HCK := Lib.hid hck
  have HSRC := Lib.hid hsrc
  clear hck hsrc hCS hDS hrow hT
  go_enter Try.func42, Try.ntmps42
  go_wp2_with (first
    | refine wpList_load_row rfl 132 (.tmp 8) rfl X rfl 132 DS (0, 0) _ HROW.out Try.underlying132 rfl (by rw [HDS.out]; kernel_rfl) ?_
    | (refine wpList_store_fresh rfl 132 (.tmp 5) (.tmp 9) rfl rfl w.heap.size rfl DS rfl rfl (by rw [HDS.out]; kernel_rfl) (by rw [HDS.out]; rfl) HDA.out ?_; intro W1 hr1 hb1; (have HK1 := Lib.hid (HCK.out W1 w.heap.size hr1.out)); clear hr1)
    | (go_at_call 59; refine HK1.out.mono ?_; rintro e W2 ⟨rfl, hb2⟩; (have B2 : Hid (Below w.heap.size w W2) := Lib.hid (hb1.out.toBelow.trans (hb2.below _ hb1.out.size (by simp)))); clear hb2)
    | (refine wpList_store_fresh rfl 134 (.tmp 6) (.tmp 10) rfl rfl W2.heap.size rfl CS rfl rfl (by rw [HSZ.out]; kernel_rfl) (by rw [HSZ.out]; rfl) HALL.out ?_; intro W3 hr3 hb3; (have S3 := Lib.hid (HSRC.out W3 W2.heap.size hr3.out)); (have B3 : Hid (Below w.heap.size w W3) := Lib.hid (B2.out.trans (hb3.out.toBelow.mono B2.out.size))); clear hr3)
    | (at_builtin; refine app_nil rfl (.tmp 11) (.tmp 12) rfl rfl W2.heap.size 0 20 20 (sum l) rfl S3.out rfl (by omega) (by omega) W3.heap.size rfl ?_; intro c4 W4 hbuf4 hb4))
  go_ret
  exact ⟨_, _, rfl, Lib.hid ⟨hbuf4.out, B3.out.trans (hb4.out.toBelow.mono B3.out.size)⟩⟩

set_option maxRecDepth 100000 in
set_option maxHeartbeats 1000000 in
theorem zz26 (k : Nat) (hk : k ≤ 1) (A : Option Addr) (c : Nat) (l : List UInt8) (w : World) (hmax : l.length ≤ 100000) (hl : k = 0 → l = [])
    (hA : k = 1 → ∃ P g cap, A = some ⟨P, 0, none⟩ ∧ w.cell? ⟨P, 0, none⟩ = some (.slice (some ⟨g, 0, none⟩) l.length cap) ∧ g < w.heap.size ∧ l.length ≤ cap ∧ ∀ j, j < l.length → w.cell? ⟨g, j, none⟩ = some (.int .u8 ((l.getD j 0).toNat : Int))) :
    Calls Try.prog 26 #[.slice A k c, .slice none 0 0] w fun e w' => ∃ g c, e = .returned (.slice (some ⟨g, 0, none⟩) 20 c) ∧ Hid (BufAt w' g (sum l) c ∧ Below w.heap.size w w') := by
  have HA := Lib.hid hA
  have HL := Lib.hid hl
  clear hA hl
  go_enter Try.func26, Try.ntmps26
  go_wp2_with (go_at_call 40; refine (new40 w).mono ?_; rintro e w2 ⟨rfl, h2⟩)
  go_loopw [11] (fun i wr => ∃ t : Nat, t ≤ k ∧ i = .int .i64 t ∧ Hid (∃ x, Took wr w.heap.size (if t = 0 then [] else l) (if t = 0 then [] else l).length x ∧ Below w.heap.size w wr)) (fun i _ => k - (intOf i).toNat)
  case atStart => exact ⟨0, by omega, rfl, Lib.hid ⟨List.replicate 64 0, by rw [if_pos rfl]; exact ⟨h2.out.1, fun j hj => by simp at hj⟩, h2.out.2⟩⟩
  case round =>
    clear h2
    obtain ⟨t, ht, rfl, J⟩ := hrel
    by_cases hlt : t < k
    · have hk1 : k = 1 := by omega
      obtain rfl : t = 0 := by omega
      obtain ⟨P, g, cap, rfl, hp, hg, hcap, hc⟩ := HA.out hk1
      have hk0 : (0 : Int) < (k : Int) := by omega
      have HK1 := Lib.hid hk1
      clear hk1
      obtain ⟨x, hT, hb⟩ := J.out
      rw [if_pos rfl] at hT
      have hPlt : P < w.heap.size := block_lt_of_cell hp
      have p0 : wr.cell? ⟨P, 0, none⟩ = _ := (hb.cell (p := ⟨P, 0, none⟩) hPlt).trans hp
      have HW := Lib.hid (write41 [] l w.heap.size g 0 cap x wr hT (fun _ => ⟨by omega, Nat.lt_of_lt_of_le hg hb.size, fun j hj => by rw [Nat.zero_add]; exact (hb.cell (p := ⟨g, j, none⟩) hg).trans (hc j hj)⟩) hcap (by simp; omega))
      have HB := Lib.hid hb
      clear hT hc hb hp
      go_wp2_with (go_at_call 41; refine HW.out.mono ?_; rintro e w3 ⟨rfl, h3⟩; (have H3 := Lib.hid h3); clear h3)
      go_roundw
      case rel =>
        obtain ⟨x', hT', hb'⟩ := H3.out
        exact ⟨1, by omega, by go_num, Lib.hid ⟨x', hT', HB.out.trans (hb'.below _ HB.out.size (by simp))⟩⟩
      case measure => have := HK1.out; simp [intOf]; omega
    · obtain rfl : t = k := by omega
      obtain ⟨x, hT, hb⟩ := J.out
      have e : (if t = 0 then [] else l) = l := by
        by_cases h : t = 0
        · rw [if_pos h, HL.out h]
        · rw [if_neg h]
      rw [e] at hT
      have HS := Lib.hid (sum42 w.heap.size l x wr hT hmax)
      have HB := Lib.hid hb
      clear hT hb J e
      go_wp2_with (go_at_call 42; refine HS.out.mono ?_; rintro e w3 ⟨g, c', rfl, h3⟩)
      go_ret
      exact ⟨_, _, rfl, Lib.hid ⟨h3.out.1, HB.out.trans (h3.out.2.mono HB.out.size)⟩⟩
end Go.Proofs.Ytdlimgghcpbkcaa.sha
