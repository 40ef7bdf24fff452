/-
  Proved: the contracts of spec.padded, spec.SHA1 and spec.Hex.
  Conditions: texts of at most 100000 bytes.
-/
import Derived.Test.YtdlimgghcpbkcaaShaC
import Derived.Test.YtdlimgghcpbkcaaBufR
namespace Go.Proofs.Ytdlimgghcpbkcaa.sha
open Go.RowKit Mem Go.Great
set_option linter.unusedVariables false

/-- A slice that owns bytes. -/
def Own (w : World) (base : Nat) (v : Value) (l : List UInt8) (wr : World) : Prop := ∃ g cap, v = .slice (some ⟨g, 0, none⟩) l.length cap ∧ BufAt wr g l cap ∧ base ≤ g ∧ Below base w wr

theorem own_next {w wr w2 : World} {base g g2 : Nat} {o : Obj} (hb : Below base w wr) (hg : base ≤ g) (hB2 : Hid (But [g] (wr.alloc o) w2)) (hg2 : g2 = g ∨ g2 = (wr.alloc o).heap.size) (hsz : base ≤ wr.heap.size) : base ≤ g2 ∧ Below base w w2 := by
  have h1 : Below base wr (wr.alloc o) := ((But.refl [] wr).alloc o).toBelow.mono hsz
  refine ⟨?_, (hb.trans h1).trans (hB2.out.below base (by rw [heap_alloc_size]; omega) (by simp; exact hg))⟩
  rcases hg2 with rfl | rfl
  · exact hg
  · rw [heap_alloc_size]; omega
theorem tailZ_iff (n k : Nat) (hk : k ≤ tailZ n) : (n + 1 + k) % 64 = 56 ↔ k = tailZ n := by
  unfold tailZ at *
  split at hk <;> split <;> omega

set_option maxRecDepth 100000 in
set_option maxHeartbeats 8000000 in
theorem padded27 (s : ByteArray) (hs : s.size ≤ 100000) (w : World) :
    Calls Try.prog 27 #[.string s] w fun e w' => ∃ v, e = .returned v ∧ Hid (Own w w.heap.size v (s.data.toList ++ tail s.size) w') := by
  obtain ⟨l, hl⟩ : ∃ l, s.data.toList = l := ⟨_, rfl⟩
  have hll : l.length = s.size := by rw [← hl]; simp
  obtain ⟨n, hn⟩ : ∃ n, s.size = n := ⟨_, rfl⟩
  rw [hl, hn]
  have hconv : ∀ w : World, (convert 9 50 (.string s)).run Try.prog w = .ok (.slice (some ⟨w.heap.size, 0, none⟩) s.size (grownCap w s.size 0 5)) (Lib.bytesWorld w 5 s) := fun w =>
    Lib.run_convert_string_bytes w 9 50 5 s Try.underlying9 Try.underlying50 Try.underlying5
  have hb := BufAt.of_bytesWorld w s (by omega)
  rw [hl] at hb
  obtain ⟨w1, hw1⟩ : ∃ w1, Lib.bytesWorld w 5 s = w1 := ⟨_, rfl⟩
  have hb1 : Below w.heap.size w w1 := hw1 ▸ (bytes_but [] w 5 s).toBelow
  obtain ⟨c1, hc1⟩ : ∃ c1, grownCap w s.size 0 5 = c1 := ⟨_, rfl⟩
  have hcv := hconv w
  rw [hw1, hc1, hn] at hcv
  rw [hw1, hc1] at hb
  rw [hn] at hll hs
  clear hconv
  have HB1 := Lib.hid hb
  have HW1 := Lib.hid hb1
  have HLL := Lib.hid hll
  clear hb hb1 hll hw1 hc1 hl
  go_enter Try.func27, Try.ntmps27
  go_wp2_with (at_builtin; refine app_buf rfl (.tmp 6) (.tmp 7) rfl w.heap.size n c1 l rfl HLL.out (HB1.out.but ((But.refl [] w1).alloc (.cells #[.int .u8 128] 5)) (by simp)) w1.heap.size 0 1 1 [128] rfl (lit1 w1 128 128 rfl) rfl (by omega) ?_; intro g2 c2 w2 hb2 hB2 hg2)
  obtain ⟨hg3, hb3⟩ := own_next HW1.out (Nat.le_refl _) hB2 hg2 (HW1.out.size)
  go_loopw [3] (fun v wr => ∃ g c k : Nat, k ≤ tailZ n ∧ v = .slice (some ⟨g, 0, none⟩) (n + 1 + k) c ∧ Hid (BufAt wr g (l ++ (128 :: List.replicate k 0)) c ∧ w.heap.size ≤ g ∧ Below w.heap.size w wr)) (fun v _ => tailZ n + n + 1 - plen v)
  case atStart => exact ⟨g2, c2, 0, Nat.zero_le _, rfl, Lib.hid ⟨hb2.out, hg3, hb3⟩⟩
  case round =>
    clear hg3 hb3 hb2 hB2 hg2 HW1 HB1
    obtain ⟨g, c, k, hk, rfl, J⟩ := hrel
    have hz : tailZ n ≤ 63 := by unfold tailZ; split <;> omega
    by_cases hlt : k < tailZ n
    · have h56 : ¬ (n + 1 + k) % 64 = 56 := fun h => by have := (tailZ_iff n k hk).1 h; omega
      obtain ⟨N, hN⟩ : ∃ N, n + 1 + k = N := ⟨_, rfl⟩
      rw [hN] at h56
      have hNl : (l ++ (128 :: List.replicate k 0)).length = N := by rw [List.length_append, HLL.out, List.length_cons, List.length_replicate]; omega
      have hNb : N ≤ 200000 := by omega
      rw [hN]
      have HN := Lib.hid hN
      have HNL := Lib.hid hNl
      have h57 : ¬ (N : Int) % 64 = 56 := by omega
      clear hN hNl
      go_wp2_with (at_builtin; refine app_buf rfl (.tmp 13) (.tmp 14) rfl g N c _ rfl HNL.out (J.out.1.but ((But.refl [] wr).alloc (.cells #[.int .u8 0] 5)) (by simp)) wr.heap.size 0 1 1 [0] rfl (lit1 wr 0 0 rfl) rfl (by omega) ?_; intro g2 c2 w2 hb2 hB2 hg2)
      obtain ⟨hg3, hb3⟩ := own_next J.out.2.2 J.out.2.1 hB2 hg2 (J.out.2.2.size)
      go_roundw
      case rel =>
        refine ⟨g2, c2, k + 1, hlt, by rw [← HN.out]; rfl, Lib.hid ⟨?_, hg3, hb3⟩⟩
        have := hb2.out
        rw [List.append_assoc, List.cons_append, ← List.replicate_succ'] at this
        exact this
      case measure => have := HN.out; simp [plen]; omega
    · have hkz : k = tailZ n := by omega
      have h56 := (tailZ_iff n k hk).2 hkz
      obtain ⟨N, hN⟩ : ∃ N, n + 1 + k = N := ⟨_, rfl⟩
      rw [hN] at h56
      have h57 : (N : Int) % 64 = 56 := by omega
      have hNl : (l ++ (128 :: List.replicate (tailZ n) 0)).length = N := by rw [List.length_append, HLL.out, List.length_cons, List.length_replicate]; omega
      rw [hkz] at J
      have hNb : N ≤ 200000 := by omega
      rw [hN]
      have HNL := Lib.hid hNl
      clear hN hNl hkz
      obtain ⟨L0, hL0⟩ : ∃ L0, l ++ (128 :: List.replicate (tailZ n) 0) = L0 := ⟨_, rfl⟩
      rw [hL0] at J HNL
      have HL0 := Lib.hid hL0
      clear hL0
      have hn8 : (8 : Int) * (n : Int) = ((8 * n : Nat) : Int) := by omega
      obtain ⟨N8, hN8⟩ : ∃ N8, 8 * n = N8 := ⟨_, rfl⟩
      rw [hN8] at hn8
      have hN8b : N8 ≤ 800000 := by omega
      have HN8 := Lib.hid hN8
      clear hN8
      go_wp2
      clear h57 h56
      go_loopw [3, 4] (fun v i wr => ∃ g c t : Nat, t ≤ 8 ∧ v = .slice (some ⟨g, 0, none⟩) (N + t) c ∧ i = .int .i64 (7 - (t : Int)) ∧ Hid (BufAt wr g (L0 ++ (be64 N8).take t) c ∧ w.heap.size ≤ g ∧ Below w.heap.size w wr)) (fun _ i _ => (intOf i + 1).toNat)
      case atStart => exact ⟨g, c, 0, by omega, rfl, rfl, Lib.hid ⟨by simpa using J.out.1, J.out.2⟩⟩
      case round =>
        clear J HLL
        obtain ⟨g, c, t, ht, rfl, rfl, J⟩ := hrel
        by_cases hlt : t < 8
        · have hlen : (L0 ++ (be64 N8).take t).length = N + t := by rw [List.length_append, HNL.out, List.length_take, be64_length]; omega
          replace HNL := Lib.hid hlen
          clear hlen
          obtain rfl | rfl | rfl | rfl | rfl | rfl | rfl | rfl : t = 0 ∨ t = 1 ∨ t = 2 ∨ t = 3 ∨ t = 4 ∨ t = 5 ∨ t = 6 ∨ t = 7 := by omega
          · go_wp2_with (at_builtin; refine app_buf rfl (.tmp 20) (.tmp 29) rfl g (N + 0) c _ rfl HNL.out (J.out.1.but ((But.refl [] wr).alloc (.cells #[.int .u8 ((N8 : Int) / 72057594037927936)] 5)) (by simp)) wr.heap.size 0 1 1 [UInt8.ofNat (N8 / 2 ^ 56)] rfl (lit1 wr _ _ (by rw [← byte_nat N8 56 72057594037927936 (by decide)]; omega)) rfl (by omega) ?_; intro g2 c2 w2 hb2 hB2 hg2)
            obtain ⟨hg3, hb3⟩ := own_next J.out.2.2 J.out.2.1 hB2 hg2 (J.out.2.2.size)
            go_roundw
            case rel =>
              refine ⟨g2, c2, 1, by omega, rfl, by go_num, Lib.hid ⟨?_, hg3, hb3⟩⟩
              have := hb2.out
              rw [List.append_assoc] at this
              exact this
            case measure => simp [intOf]
          · go_wp2_with (at_builtin; refine app_buf rfl (.tmp 20) (.tmp 29) rfl g (N + 1) c _ rfl HNL.out (J.out.1.but ((But.refl [] wr).alloc (.cells #[.int .u8 ((N8 : Int) / 281474976710656)] 5)) (by simp)) wr.heap.size 0 1 1 [UInt8.ofNat (N8 / 2 ^ 48)] rfl (lit1 wr _ _ (by rw [← byte_nat N8 48 281474976710656 (by decide)]; omega)) rfl (by omega) ?_; intro g2 c2 w2 hb2 hB2 hg2)
            obtain ⟨hg3, hb3⟩ := own_next J.out.2.2 J.out.2.1 hB2 hg2 (J.out.2.2.size)
            go_roundw
            case rel =>
              refine ⟨g2, c2, 2, by omega, rfl, by go_num, Lib.hid ⟨?_, hg3, hb3⟩⟩
              have := hb2.out
              rw [List.append_assoc] at this
              exact this
            case measure => simp [intOf]
          · go_wp2_with (at_builtin; refine app_buf rfl (.tmp 20) (.tmp 29) rfl g (N + 2) c _ rfl HNL.out (J.out.1.but ((But.refl [] wr).alloc (.cells #[.int .u8 ((N8 : Int) / 1099511627776)] 5)) (by simp)) wr.heap.size 0 1 1 [UInt8.ofNat (N8 / 2 ^ 40)] rfl (lit1 wr _ _ (by rw [← byte_nat N8 40 1099511627776 (by decide)]; omega)) rfl (by omega) ?_; intro g2 c2 w2 hb2 hB2 hg2)
            obtain ⟨hg3, hb3⟩ := own_next J.out.2.2 J.out.2.1 hB2 hg2 (J.out.2.2.size)
            go_roundw
            case rel =>
              refine ⟨g2, c2, 3, by omega, rfl, by go_num, Lib.hid ⟨?_, hg3, hb3⟩⟩
              have := hb2.out
              rw [List.append_assoc] at this
              exact this
            case measure => simp [intOf]
          · go_wp2_with (at_builtin; refine app_buf rfl (.tmp 20) (.tmp 29) rfl g (N + 3) c _ rfl HNL.out (J.out.1.but ((But.refl [] wr).alloc (.cells #[.int .u8 ((N8 : Int) / 4294967296)] 5)) (by simp)) wr.heap.size 0 1 1 [UInt8.ofNat (N8 / 2 ^ 32)] rfl (lit1 wr _ _ (by rw [← byte_nat N8 32 4294967296 (by decide)]; omega)) rfl (by omega) ?_; intro g2 c2 w2 hb2 hB2 hg2)
            obtain ⟨hg3, hb3⟩ := own_next J.out.2.2 J.out.2.1 hB2 hg2 (J.out.2.2.size)
            go_roundw
            case rel =>
              refine ⟨g2, c2, 4, by omega, rfl, by go_num, Lib.hid ⟨?_, hg3, hb3⟩⟩
              have := hb2.out
              rw [List.append_assoc] at this
              exact this
            case measure => simp [intOf]
          · go_wp2_with (at_builtin; refine app_buf rfl (.tmp 20) (.tmp 29) rfl g (N + 4) c _ rfl HNL.out (J.out.1.but ((But.refl [] wr).alloc (.cells #[.int .u8 ((N8 : Int) / 16777216)] 5)) (by simp)) wr.heap.size 0 1 1 [UInt8.ofNat (N8 / 2 ^ 24)] rfl (lit1 wr _ _ (by rw [← byte_nat N8 24 16777216 (by decide)]; omega)) rfl (by omega) ?_; intro g2 c2 w2 hb2 hB2 hg2)
            obtain ⟨hg3, hb3⟩ := own_next J.out.2.2 J.out.2.1 hB2 hg2 (J.out.2.2.size)
            go_roundw
            case rel =>
              refine ⟨g2, c2, 5, by omega, rfl, by go_num, Lib.hid ⟨?_, hg3, hb3⟩⟩
              have := hb2.out
              rw [List.append_assoc] at this
              exact this
            case measure => simp [intOf]
          · go_wp2_with (at_builtin; refine app_buf rfl (.tmp 20) (.tmp 29) rfl g (N + 5) c _ rfl HNL.out (J.out.1.but ((But.refl [] wr).alloc (.cells #[.int .u8 ((N8 : Int) / 65536)] 5)) (by simp)) wr.heap.size 0 1 1 [UInt8.ofNat (N8 / 2 ^ 16)] rfl (lit1 wr _ _ (by rw [← byte_nat N8 16 65536 (by decide)]; omega)) rfl (by omega) ?_; intro g2 c2 w2 hb2 hB2 hg2)
            obtain ⟨hg3, hb3⟩ := own_next J.out.2.2 J.out.2.1 hB2 hg2 (J.out.2.2.size)
            go_roundw
            case rel =>
              refine ⟨g2, c2, 6, by omega, rfl, by go_num, Lib.hid ⟨?_, hg3, hb3⟩⟩
              have := hb2.out
              rw [List.append_assoc] at this
              exact this
            case measure => simp [intOf]
          · go_wp2_with (at_builtin; refine app_buf rfl (.tmp 20) (.tmp 29) rfl g (N + 6) c _ rfl HNL.out (J.out.1.but ((But.refl [] wr).alloc (.cells #[.int .u8 ((N8 : Int) / 256 % 256)] 5)) (by simp)) wr.heap.size 0 1 1 [UInt8.ofNat (N8 / 2 ^ 8)] rfl (lit1 wr _ _ (byte_nat N8 8 256 (by decide))) rfl (by omega) ?_; intro g2 c2 w2 hb2 hB2 hg2)
            obtain ⟨hg3, hb3⟩ := own_next J.out.2.2 J.out.2.1 hB2 hg2 (J.out.2.2.size)
            go_roundw
            case rel =>
              refine ⟨g2, c2, 7, by omega, rfl, by go_num, Lib.hid ⟨?_, hg3, hb3⟩⟩
              have := hb2.out
              rw [List.append_assoc] at this
              exact this
            case measure => simp [intOf]
          · go_wp2_with (at_builtin; refine app_buf rfl (.tmp 20) (.tmp 29) rfl g (N + 7) c _ rfl HNL.out (J.out.1.but ((But.refl [] wr).alloc (.cells #[.int .u8 ((N8 : Int) % 256)] 5)) (by simp)) wr.heap.size 0 1 1 [UInt8.ofNat N8] rfl (lit1 wr _ _ (by rw [UInt8.toNat_ofNat']; omega)) rfl (by omega) ?_; intro g2 c2 w2 hb2 hB2 hg2)
            obtain ⟨hg3, hb3⟩ := own_next J.out.2.2 J.out.2.1 hB2 hg2 (J.out.2.2.size)
            go_roundw
            case rel =>
              refine ⟨g2, c2, 8, by omega, rfl, by go_num, Lib.hid ⟨?_, hg3, hb3⟩⟩
              have := hb2.out
              rw [List.append_assoc] at this
              exact this
            case measure => simp [intOf]
        · obtain rfl : t = 8 := by omega
          go_wp2
          go_ret
          refine ⟨_, rfl, Lib.hid ⟨g, c, ?_, ?_, J.out.2.1, J.out.2.2⟩⟩
          · show Value.slice (some ⟨g, 0, none⟩) (N + 8) c = _
            have h1 : (l ++ tail n).length = N + 8 := by
              have := HNL.out
              rw [← HL0.out] at this
              rw [List.length_append, tail_length]
              simp only [List.length_append, List.length_cons, List.length_replicate] at this
              omega
            rw [h1]
          · have e : l ++ tail n = L0 ++ List.take 8 (be64 N8) := by
              rw [← HL0.out, ← HN8.out]
              unfold tail
              simp [be64]
            rw [e]
            exact J.out.1
end Go.Proofs.Ytdlimgghcpbkcaa.sha
