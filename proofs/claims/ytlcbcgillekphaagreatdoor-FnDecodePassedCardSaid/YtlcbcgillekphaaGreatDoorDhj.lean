/-
  Proved: the maker of a decoder once more, told of memory further back.
  Conditions: a text of at most 4000 bytes, sizes of at most 100 pieces in memory.
-/
import Derived.Test.YtlcbcgillekphaaGreatDoorDfa
namespace Go.Proofs.YtlcbcgillekphaaGreatDoor.dec
open Go.RowKit Mem rw
set_option linter.unusedVariables false
set_option linter.unusedSimpArgs false

/-- A decoder over bytes. -/
theorem fresh_bytes' {w0 w W1 : World} {ev : Addr} (hc : Ctx w0 ev) (l : List UInt8) (hl : l.length ≤ 4000) (B cap : Nat) (hbuf : BufAt W1 B l cap) (hB : w.heap.size ≤ B) (hw : But [] w0 w) (hb : But [] w W1) :
    ∃ G L, G.D = W1.heap.size + 1 ∧ Base G ∧ DL G L ((W1.alloc (.cells (madeCells #[.int .u8 0] 512) 5)).alloc (.cells #[.nilIface, .slice (some ⟨B, 0, none⟩) l.length cap, .int .i64 0, .int .i64 0, .bool true, .int .u8 5, .bool false, .slice (some ⟨W1.heap.size, 0, none⟩) 0 512, .int .i64 1, .nilIface] 63)) ∧ G.w0 = w0 ∧ G.T = l ∧ Fresh L ∧ ∀ k, k ∈ own G L → w.heap.size ≤ k := by
  have hws := hw.size
  have hs := hb.size
  have hlt := hbuf.lt
  refine ⟨⟨w0, l, W1.heap.size + 1, W1.heap.size + 1, none, 0, [], ev⟩, ⟨.nilIface, false, B, cap, l.length, 0, 0, 0, true, 5, false, W1.heap.size, 512, [], 1⟩, rfl, ⟨hc.eof, fun j z h => by simp at h, .inl rfl, by simp, by simp, hl, hc.tabs, by show w0.heap.size ≤ W1.heap.size + 1; omega, by show w0.heap.size ≤ W1.heap.size + 1; omega⟩, ?_, rfl, rfl, ⟨rfl, rfl, rfl, rfl, rfl, rfl, rfl⟩, fun k hk => ?_⟩
  rotate_left
  · rw [mem_own] at hk
    rcases hk with e | e | e | ⟨_, e⟩
    · rw [e]; show w.heap.size ≤ W1.heap.size + 1; omega
    · rw [e]; exact hs
    · rw [e]; show w.heap.size ≤ W1.heap.size + 1; omega
    · rw [e]; exact hB
  obtain ⟨W2, hW2⟩ : ∃ W2, W1.alloc (.cells (madeCells #[.int .u8 0] 512) 5) = W2 := ⟨_, rfl⟩
  have hb2 : But [] W1 W2 := hW2 ▸ (But.refl [] W1).alloc _
  have hsz2 : W2.heap.size = W1.heap.size + 1 := by rw [← hW2]; exact alloc_size _ _
  have hE2 : W2.heap[W1.heap.size]? = some (.cells (madeCells #[.int .u8 0] 512) 5 (0, 0)) := by rw [← hW2]; exact heap_alloc_new _ _
  rw [hW2]
  obtain ⟨W3, hW3⟩ : ∃ W3, W2.alloc (.cells #[.nilIface, .slice (some ⟨B, 0, none⟩) l.length cap, .int .i64 0, .int .i64 0, .bool true, .int .u8 5, .bool false, .slice (some ⟨W1.heap.size, 0, none⟩) 0 512, .int .i64 1, .nilIface] 63) = W3 := ⟨_, rfl⟩
  have hb3 : But [] W2 W3 := hW3 ▸ (But.refl [] W2).alloc _
  have hD3 : Rw W3 (W1.heap.size + 1) [.nilIface, .slice (some ⟨B, 0, none⟩) l.length cap, .int .i64 0, .int .i64 0, .bool true, .int .u8 5, .bool false, .slice (some ⟨W1.heap.size, 0, none⟩) 0 512, .int .i64 1, .nilIface] 63 := by
    rw [← hW3, ← hsz2]; exact Rw.new W2 _ _
  rw [hW3]
  have hE3 := hb3.heapAt hE2 (by simp)
  refine ⟨hD3, fun _ => ⟨?_, by show W1.heap.size + 1 ≠ B; omega, by show B ≠ W1.heap.size; omega, Nat.le_trans hws hB, by show W1.heap.size + 1 ≠ B; omega⟩, fun e => (by cases e), by show 0 + l.length ≤ l.length; omega, Nat.le_refl _, Nat.zero_le _, made_buf W1 W3 hE3, by show 0 ≤ _; omega, by show W1.heap.size + 1 ≠ W1.heap.size; omega, by show W1.heap.size + 1 ≠ W1.heap.size; omega, Nat.le_trans hws hs, fun _ => by show 0 + l.length = l.length; omega, fun e => (by cases e), ((((hw.trans hb).trans hb2).trans hb3).toBelow), by show 1 ≤ _; omega, Rw.lt hD3⟩
  show BufAt W3 B ((l.drop 0).take l.length) cap
  rw [List.drop_zero, List.take_length]
  exact (hbuf.but hb2 (by simp)).but hb3 (by simp)
/-- A decoder over a reader. -/
theorem fresh_rd' {w0 w : World} {ev : Addr} (hw : But [] w0 w) (hc : Ctx w0 ev) (s : ByteArray) (hs : s.size ≤ 4000) (sa : Option Addr) (zs : List Int) (sc : Nat) (hz : SzAt w0 sa zs) :
    ∃ G L, G.D = w.heap.size + 2 ∧ Base G ∧ DL G L (((w.alloc (.cells #[.string s, szv sa zs sc, .int .i64 0, .bool false] 89)).alloc (.cells (madeCells #[.int .u8 0] 512) 5)).alloc (.cells #[.iface 53 (.pointer (some ⟨w.heap.size, 0, none⟩)), .slice none 0 0, .int .i64 0, .int .i64 0, .bool false, .int .u8 5, .bool false, .slice (some ⟨w.heap.size + 1, 0, none⟩) 0 512, .int .i64 1, .nilIface] 63)) ∧ G.w0 = w0 ∧ G.T = s.data.toList ∧ Fresh L ∧ ∀ k, k ∈ own G L → w.heap.size ≤ k := by
  have hws := hw.size
  have hlen : s.data.toList.length = s.size := by simp
  have hszl : (szs zs).length ≤ 100 := by unfold szs; split; exact hz.few; simp
  refine ⟨⟨w0, s.data.toList, w.heap.size + 2, w.heap.size, if some0 zs = true then sa else none, if some0 zs = true then sc else 0, szs zs, ev⟩, ⟨.iface 53 (.pointer (some ⟨w.heap.size, 0, none⟩)), true, 0, 0, 0, 0, 0, 0, false, 5, false, w.heap.size + 1, 512, [], 1⟩, rfl,
    ⟨hc.eof, fun j z h => ?_, szs_some, hszl, fun z hm => ?_, by show s.data.toList.length ≤ 4000; omega, hc.tabs, by show w0.heap.size ≤ w.heap.size + 2; omega, hws⟩, ?_, rfl, rfl, ⟨rfl, rfl, rfl, rfl, rfl, rfl, rfl⟩, fun k hk => ?_⟩
  · change (szs zs)[j]? = some z at h
    show ∃ A off, (if some0 zs = true then sa else none) = _ ∧ _
    unfold szs at h
    split at h
    · next hs0 => rw [if_pos hs0]; exact hz.at_ j z h
    · simp at h
  · change z ∈ szs zs at hm
    unfold szs at hm
    split at hm
    · exact hz.big z hm
    · simp at hm
  rotate_left
  · rw [mem_own] at hk
    rcases hk with e | e | e | ⟨e, _⟩
    · rw [e]; show w.heap.size ≤ w.heap.size + 2; omega
    · rw [e]; show w.heap.size ≤ w.heap.size + 1; omega
    · rw [e]; exact Nat.le_refl _
    · cases e
  obtain ⟨W1, hW1⟩ : ∃ W1, w.alloc (.cells #[.string s, szv sa zs sc, .int .i64 0, .bool false] 89) = W1 := ⟨_, rfl⟩
  have hb1 : But [] w W1 := hW1 ▸ (But.refl [] w).alloc _
  have hsz1 : W1.heap.size = w.heap.size + 1 := by rw [← hW1]; exact alloc_size _ _
  have hR1 : Rw W1 w.heap.size [.string s, szv sa zs sc, .int .i64 0, .bool false] 89 := by rw [← hW1]; exact Rw.new w _ _
  rw [hW1]
  obtain ⟨W2, hW2⟩ : ∃ W2, W1.alloc (.cells (madeCells #[.int .u8 0] 512) 5) = W2 := ⟨_, rfl⟩
  have hb2 : But [] W1 W2 := hW2 ▸ (But.refl [] W1).alloc _
  have hsz2 : W2.heap.size = w.heap.size + 2 := by rw [← hW2]; rw [alloc_size]; omega
  have hE2 : W2.heap[W1.heap.size]? = some (.cells (madeCells #[.int .u8 0] 512) 5 (0, 0)) := by rw [← hW2]; exact heap_alloc_new _ _
  rw [hW2]
  obtain ⟨W3, hW3⟩ : ∃ W3, W2.alloc (.cells #[.iface 53 (.pointer (some ⟨w.heap.size, 0, none⟩)), .slice none 0 0, .int .i64 0, .int .i64 0, .bool false, .int .u8 5, .bool false, .slice (some ⟨w.heap.size + 1, 0, none⟩) 0 512, .int .i64 1, .nilIface] 63) = W3 := ⟨_, rfl⟩
  have hb3 : But [] W2 W3 := hW3 ▸ (But.refl [] W2).alloc _
  have hD3 : Rw W3 (w.heap.size + 2) [.iface 53 (.pointer (some ⟨w.heap.size, 0, none⟩)), .slice none 0 0, .int .i64 0, .int .i64 0, .bool false, .int .u8 5, .bool false, .slice (some ⟨w.heap.size + 1, 0, none⟩) 0 512, .int .i64 1, .nilIface] 63 := by
    rw [← hW3, ← hsz2]; exact Rw.new W2 _ _
  rw [hW3]
  have hE3 := hb3.heapAt hE2 (by simp)
  have hR3 := Rw.but (Rw.but hR1 hb2 (by simp)) hb3 (by simp)
  have hmb := made_buf W1 W3 hE3
  rw [hsz1] at hmb
  refine ⟨hD3, fun e => (by cases e), fun _ => ⟨rfl, rfl, rfl, rfl⟩, by show 0 + 0 ≤ _; omega, Nat.le_refl _, Nat.le_refl _, hmb, by show 0 ≤ _; omega, by show w.heap.size + 2 ≠ w.heap.size + 1; omega, by show w.heap.size ≠ w.heap.size + 1; omega, by show w0.heap.size ≤ w.heap.size + 1; omega, fun e => (by cases e), fun _ => ⟨rfl, ⟨0, ?_, fun _ => rfl, ?_⟩, by show w.heap.size ≠ w.heap.size + 2; omega, fun e => (by cases e)⟩, ((((hw.trans hb1).trans hb2).trans hb3).toBelow), by show 1 ≤ _; omega, Rw.lt hR3⟩
  · show Rw W3 w.heap.size [.string ⟨(s.data.toList.drop (0 + 0)).toArray⟩, .slice (if some0 zs = true then sa else none) (szs zs).length (if some0 zs = true then sc else 0), .int .i64 0, .bool false] _
    have e1 : (⟨(s.data.toList.drop (0 + 0)).toArray⟩ : ByteArray) = s := by simp
    have e2 : Value.slice (if some0 zs = true then sa else none) (szs zs).length (if some0 zs = true then sc else 0) = szv sa zs sc := by
      unfold szs szv
      split <;> rfl
    rw [e1, e2]
    exact hR3
  · show 0 + (s.data.toList.drop (0 + 0)).length * (szs zs).length + dist ((szs zs).findIdx fun z => decide (0 < z)) (szs zs).length 0 ≤ 1000000
    have h1 := dist0 (szs zs) hszl
    have h2 : (s.data.toList.drop (0 + 0)).length * (szs zs).length ≤ 4000 * 100 := Nat.mul_le_mul (by rw [Nat.zero_add, List.drop_zero]; omega) hszl
    omega

/-- What a maker leaves. -/
def DecOut' (w0 : World) (s : ByteArray) (w : World) (e : Ending) (w' : World) : Prop :=
  ∃ G L, e = .returned (.pointer (some ⟨G.D, 0, none⟩)) ∧ Hid (Base G ∧ DL G L w' ∧ G.w0 = w0 ∧ G.T = s.data.toList ∧ Fresh L ∧ But [] w w' ∧ ∀ k, k ∈ own G L → w.heap.size ≤ k)
set_option maxRecDepth 100000 in
theorem decoder15' {w0 : World} (s : ByteArray) (hs : s.size ≤ 4000) (sa : Option Addr) (zs : List Int) (sc : Nat) (w : World) (ev : Addr) (hw : But [] w0 w) (hc : Ctx w0 ev) (hz : SzAt w0 sa zs) :
    Calls Tryz.prog 13 #[.string s, .slice sa zs.length sc, .bool false] w (DecOut' w0 s w) := by
  have hfew := hz.few
  cases zs with
  | nil =>
    have hconv : ∀ w : World, (convert 9 51 (.string s)).run Tryz.prog w = .ok (.slice (some ⟨w.heap.size, 0, none⟩) s.size (grownCap w s.size 0 5)) (Lib.bytesWorld w 5 s) := fun w =>
      Lib.run_convert_string_bytes w 9 51 5 s Tryz.underlying9 Tryz.underlying51 Tryz.underlying5
    have hb := BufAt.of_bytesWorld w s (by omega)
    obtain ⟨W1, hW1⟩ : ∃ W1, Lib.bytesWorld w 5 s = W1 := ⟨_, rfl⟩
    have hbut : But [] w W1 := hW1 ▸ bytes_but [] w 5 s
    have hlen : s.data.toList.length = s.size := by simp
    rw [hW1] at hb
    have HF := fresh_bytes' hc s.data.toList (by omega) w.heap.size _ hb (Nat.le_refl _) hw hbut
    rw [hlen] at HF
    have HF := Lib.hid HF
    have hconv0 : (convert 9 51 (.string s)).run Tryz.prog w = .ok (.slice (some ⟨w.heap.size, 0, none⟩) s.size (grownCap w s.size 0 5)) W1 := by rw [← hW1]; exact hconv w
    have hl0 : ([] : List Int).length = 0 := rfl
    rw [hl0]
    have HBT : Hid (∀ o1 o2, But [] w ((W1.alloc o1).alloc o2)) := Lib.hid fun o1 o2 => (hbut.alloc o1).alloc o2
    clear hconv hb hW1 hbut hlen hc hz hl0 hw
    go_enter Tryz.func13, Tryz.ntmps13
    go_wp2_with fail
    refine (new24 _ _ _ _ rfl _).mono ?_
    rintro e w2 ⟨rfl, rfl⟩
    go_wp2_with fail
    go_ret
    obtain ⟨G, L, h1, h2a, h2b, h2c, h2d, h2e, h2f⟩ := HF.out
    exact ⟨G, L, by rw [h1]; rfl, Lib.hid ⟨h2a, h2b, h2c, h2d, h2e, HBT.out _ _, h2f⟩⟩
  | cons z0 zr =>
    obtain ⟨n, hn⟩ : ∃ n, (z0 :: zr).length = n := ⟨_, rfl⟩
    have hnz : ¬ (n : Int) = 0 := by rw [← hn]; simp; omega
    have HR := reader26 s sa (z0 :: zr) sc w (hz.below hw.toBelow)
    rw [hn] at HR
    have HR := Lib.hid HR
    have HF := Lib.hid (fresh_rd' hw hc s hs sa (z0 :: zr) sc hz)
    have HBT : Hid (∀ o1 o2 o3, But [] w (((w.alloc o1).alloc o2).alloc o3)) := Lib.hid fun o1 o2 o3 => (((But.refl [] w).alloc o1).alloc o2).alloc o3
    rw [hn]
    clear hn hc hz hw
    go_enter Tryz.func13, Tryz.ntmps13
    go_wp2_with fail
    refine HR.out.mono ?_
    rintro e w2 ⟨rfl, rfl⟩
    go_wp2_with fail
    refine (new25 _ _ _).mono ?_
    rintro e w3 ⟨rfl, rfl⟩
    go_wp2_with fail
    go_ret
    obtain ⟨G, L, h1, h2a, h2b, h2c, h2d, h2e, h2f⟩ := HF.out
    exact ⟨G, L, by rw [h1]; rfl, Lib.hid ⟨h2a, h2b, h2c, h2d, h2e, HBT.out _ _ _, h2f⟩⟩
end Go.Proofs.YtlcbcgillekphaaGreatDoor.dec
