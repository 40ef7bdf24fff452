/-
  Proved: the contracts of the makers of a decoder.
  Conditions: a text of at most 4000 bytes, sizes of at most 100 pieces in memory.
-/
import Derived.Test.YtlcbcgillekphaaGreatDoorDez
namespace Go.Proofs.YtlcbcgillekphaaGreatDoor.dec
open Go.RowKit Mem rw
set_option linter.unusedVariables false

/-- What a decode reads of memory that was there before. -/
structure Ctx (w : World) (ev : Addr) : Prop where
  eof : w.cell? ⟨1, 0, none⟩ = some (.iface 119 (.pointer (some ev)))
  tabs : Lib.Utf8Tabs 2 3 w
theorem Ctx.below {w w' : World} {ev : Addr} {B : Nat} (h : Ctx w ev) (hb : Below B w w') (hB : w.heap.size ≤ B) : Ctx w' ev :=
  ⟨(World.cell?_of_block (hb.block 1 (Nat.lt_of_lt_of_le (block_lt_of_cell h.eof) hB))).trans h.eof,
   tabs_below h.tabs hb (Nat.lt_of_lt_of_le (block_lt_of_cell (h.tabs.1 0 (by omega))) hB) (Nat.lt_of_lt_of_le (block_lt_of_cell (h.tabs.2 0 (by omega)).1) hB)⟩
/-- The sizes of the pieces. -/
structure SzAt (w : World) (sa : Option Addr) (zs : List Int) : Prop where
  at_ : ∀ (j : Nat) (z : Int), zs[j]? = some z → ∃ A off, sa = some ⟨A, off, none⟩ ∧ w.cell? ⟨A, off + j, none⟩ = some (.int .i64 z)
  few : zs.length ≤ 100
  big : ∀ z ∈ zs, z ≤ 9223372036854775807
theorem SzAt.nil (w : World) (sa : Option Addr) : SzAt w sa [] := ⟨fun j z h => by simp at h, by simp, by simp⟩
theorem SzAt.below {w w' : World} {sa : Option Addr} {zs : List Int} (h : SzAt w sa zs) (hb : Below w.heap.size w w') : SzAt w' sa zs :=
  ⟨fun j z hz => by
    obtain ⟨A, off, h1, h2⟩ := h.at_ j z hz
    exact ⟨A, off, h1, (hb.cell (block_lt_of_cell h2)).trans h2⟩, h.few, h.big⟩
/-- A decoder at its beginning. -/
structure Fresh (L : Lay) : Prop where
  base : L.base = 0
  r0 : L.r0 = 0
  r1 : L.r1 = 0
  sk : L.sk = false
  sec : L.sec = 5
  line : L.line = 1
  esc : L.esc = []
def some0 (zs : List Int) : Bool := zs.any fun z => decide (0 < z)
def szs (zs : List Int) : List Int := if some0 zs = true then zs else []
def szv (sa : Option Addr) (zs : List Int) (sc : Nat) : Value := if some0 zs = true then .slice sa zs.length sc else .slice none 0 0
theorem made_buf (w W : World) (hb : W.heap[w.heap.size]? = some (.cells (madeCells #[.int .u8 0] 512) 5 (0, 0))) : BufAt W w.heap.size [] 512 := by
  refine ⟨fun j x hx => by simp at hx, fun j hj => ?_, fun j hj => frozen_of_row _ _ j _ _ hb, Nat.zero_le _, (Array.getElem?_eq_some_iff.1 hb).1, by omega⟩
  rw [cell_of_row _ _ j _ _ _ hb]
  simp [madeCells, hj]
/-- A decoder over bytes. -/
theorem fresh_bytes {w W1 : World} {ev : Addr} (hc : Ctx w ev) (l : List UInt8) (hl : l.length ≤ 4000) (B cap : Nat) (hbuf : BufAt W1 B l cap) (hB : w.heap.size ≤ B) (hb : But [] w W1) :
    ∃ G L, G.D = W1.heap.size + 1 ∧ Base G ∧ DL G L ((W1.alloc (.cells (madeCells #[.int .u8 0] 512) 5)).alloc (.cells #[.nilIface, .slice (some ⟨B, 0, none⟩) l.length cap, .int .i64 0, .int .i64 0, .bool true, .int .u8 5, .bool false, .slice (some ⟨W1.heap.size, 0, none⟩) 0 512, .int .i64 1, .nilIface] 63)) ∧ G.w0 = w ∧ G.T = l ∧ Fresh L := by
  have hs := hb.size
  have hlt := hbuf.lt
  refine ⟨⟨w, l, W1.heap.size + 1, W1.heap.size + 1, none, 0, [], ev⟩, ⟨.nilIface, false, B, cap, l.length, 0, 0, 0, true, 5, false, W1.heap.size, 512, [], 1⟩, rfl, ⟨hc.eof, fun j z h => by simp at h, .inl rfl, by simp, by simp, hl, hc.tabs, by show w.heap.size ≤ W1.heap.size + 1; omega, by show w.heap.size ≤ W1.heap.size + 1; omega⟩, ?_, rfl, rfl, ⟨rfl, rfl, rfl, rfl, rfl, rfl, rfl⟩⟩
  obtain ⟨W2, hW2⟩ : ∃ W2, W1.alloc (.cells (madeCells #[.int .u8 0] 512) 5) = W2 := ⟨_, rfl⟩
  have hb2 : But [] W1 W2 := hW2 ▸ (But.refl [] W1).alloc _
  have hsz2 : W2.heap.size = W1.heap.size + 1 := by rw [← hW2]; exact alloc_size _ _
  have hE2 : W2.heap[W1.heap.size]? = some (.cells (madeCells #[.int .u8 0] 512) 5 (0, 0)) := by rw [← hW2]; exact heap_alloc_new _ _
  rw [hW2]
  obtain ⟨W3, hW3⟩ : ∃ W3, W2.alloc (.cells #[.nilIface, .slice (some ⟨B, 0, none⟩) l.length cap, .int .i64 0, .int .i64 0, .bool true, .int .u8 5, .bool false, .slice (some ⟨W1.heap.size, 0, none⟩) 0 512, .int .i64 1, .nilIface] 63) = W3 := ⟨_, rfl⟩
  have hb3 : But [] W2 W3 := hW3 ▸ (But.refl [] W2).alloc _
  have hD3 : Rw W3 (W1.heap.size + 1) [.nilIface, .slice (some ⟨B, 0, none⟩) l.length cap, .int .i64 0, .int .i64 0, .bool true, .int .u8 5, .bool false, .slice (some ⟨W1.heap.size, 0, none⟩) 0 512, .int .i64 1, .nilIface] 63 := by
    rw [← hW3, ← hsz2]; exact Rw.new W2 _ _
  rw [hW3]
  have hE3 := hb3.heapAt hE2 (by simp)
  refine ⟨hD3, fun _ => ⟨?_, by show W1.heap.size + 1 ≠ B; omega, by show B ≠ W1.heap.size; omega, hB, by show W1.heap.size + 1 ≠ B; omega⟩, fun e => (by cases e), by show 0 + l.length ≤ l.length; omega, Nat.le_refl _, Nat.zero_le _, made_buf W1 W3 hE3, by show 0 ≤ _; omega, by show W1.heap.size + 1 ≠ W1.heap.size; omega, by show W1.heap.size + 1 ≠ W1.heap.size; omega, hs, fun _ => by show 0 + l.length = l.length; omega, fun e => (by cases e), (((hb.trans hb2).trans hb3).toBelow), by show 1 ≤ _; omega, Rw.lt hD3⟩
  show BufAt W3 B ((l.drop 0).take l.length) cap
  rw [List.drop_zero, List.take_length]
  exact (hbuf.but hb2 (by simp)).but hb3 (by simp)
theorem szs_some {zs : List Int} : szs zs = [] ∨ ∃ (j : Nat) (z : Int), (szs zs)[j]? = some z ∧ 0 < z := by
  unfold szs
  cases h : some0 zs with
  | false => exact .inl rfl
  | true =>
    obtain ⟨z, hz, hz0⟩ := List.any_eq_true.1 h
    obtain ⟨j, hj⟩ := List.getElem?_of_mem hz
    exact .inr ⟨j, z, by rw [if_pos rfl]; exact hj, by simpa using hz0⟩
theorem dist0 (zs : List Int) (h : zs.length ≤ 100) : dist (zs.findIdx fun z => decide (0 < z)) zs.length 0 ≤ 300 := by
  have h1 : (zs.findIdx fun z => decide (0 < z)) ≤ zs.length := List.findIdx_le_length
  unfold dist
  split <;> omega
/-- A decoder over a reader. -/
theorem fresh_rd {w : World} {ev : Addr} (hc : Ctx w ev) (s : ByteArray) (hs : s.size ≤ 4000) (sa : Option Addr) (zs : List Int) (sc : Nat) (hz : SzAt w sa zs) :
    ∃ G L, G.D = w.heap.size + 2 ∧ Base G ∧ DL G L (((w.alloc (.cells #[.string s, szv sa zs sc, .int .i64 0, .bool false] 89)).alloc (.cells (madeCells #[.int .u8 0] 512) 5)).alloc (.cells #[.iface 53 (.pointer (some ⟨w.heap.size, 0, none⟩)), .slice none 0 0, .int .i64 0, .int .i64 0, .bool false, .int .u8 5, .bool false, .slice (some ⟨w.heap.size + 1, 0, none⟩) 0 512, .int .i64 1, .nilIface] 63)) ∧ G.w0 = w ∧ G.T = s.data.toList ∧ Fresh L := by
  have hlen : s.data.toList.length = s.size := by simp
  have hszl : (szs zs).length ≤ 100 := by unfold szs; split; exact hz.few; simp
  refine ⟨⟨w, s.data.toList, w.heap.size + 2, w.heap.size, if some0 zs = true then sa else none, if some0 zs = true then sc else 0, szs zs, ev⟩, ⟨.iface 53 (.pointer (some ⟨w.heap.size, 0, none⟩)), true, 0, 0, 0, 0, 0, 0, false, 5, false, w.heap.size + 1, 512, [], 1⟩, rfl,
    ⟨hc.eof, fun j z h => ?_, szs_some, hszl, fun z hm => ?_, by show s.data.toList.length ≤ 4000; omega, hc.tabs, by show w.heap.size ≤ w.heap.size + 2; omega, Nat.le_refl _⟩, ?_, rfl, rfl, ⟨rfl, rfl, rfl, rfl, rfl, rfl, rfl⟩⟩
  · change (szs zs)[j]? = some z at h
    show ∃ A off, (if some0 zs = true then sa else none) = _ ∧ _
    unfold szs at h
    split at h
    · next hs0 => rw [if_pos hs0]; exact hz.at_ j z h
    · simp at h
  · change z ∈ szs zs at hm
    unfold szs at hm
    split at hm
    · exact hz.big z hm
    · simp at hm
  obtain ⟨W1, hW1⟩ : ∃ W1, w.alloc (.cells #[.string s, szv sa zs sc, .int .i64 0, .bool false] 89) = W1 := ⟨_, rfl⟩
  have hb1 : But [] w W1 := hW1 ▸ (But.refl [] w).alloc _
  have hsz1 : W1.heap.size = w.heap.size + 1 := by rw [← hW1]; exact alloc_size _ _
  have hR1 : Rw W1 w.heap.size [.string s, szv sa zs sc, .int .i64 0, .bool false] 89 := by rw [← hW1]; exact Rw.new w _ _
  rw [hW1]
  obtain ⟨W2, hW2⟩ : ∃ W2, W1.alloc (.cells (madeCells #[.int .u8 0] 512) 5) = W2 := ⟨_, rfl⟩
  have hb2 : But [] W1 W2 := hW2 ▸ (But.refl [] W1).alloc _
  have hsz2 : W2.heap.size = w.heap.size + 2 := by rw [← hW2]; rw [alloc_size]; omega
  have hE2 : W2.heap[W1.heap.size]? = some (.cells (madeCells #[.int .u8 0] 512) 5 (0, 0)) := by rw [← hW2]; exact heap_alloc_new _ _
  rw [hW2]
  obtain ⟨W3, hW3⟩ : ∃ W3, W2.alloc (.cells #[.iface 53 (.pointer (some ⟨w.heap.size, 0, none⟩)), .slice none 0 0, .int .i64 0, .int .i64 0, .bool false, .int .u8 5, .bool false, .slice (some ⟨w.heap.size + 1, 0, none⟩) 0 512, .int .i64 1, .nilIface] 63) = W3 := ⟨_, rfl⟩
  have hb3 : But [] W2 W3 := hW3 ▸ (But.refl [] W2).alloc _
  have hD3 : Rw W3 (w.heap.size + 2) [.iface 53 (.pointer (some ⟨w.heap.size, 0, none⟩)), .slice none 0 0, .int .i64 0, .int .i64 0, .bool false, .int .u8 5, .bool false, .slice (some ⟨w.heap.size + 1, 0, none⟩) 0 512, .int .i64 1, .nilIface] 63 := by
    rw [← hW3, ← hsz2]; exact Rw.new W2 _ _
  rw [hW3]
  have hE3 := hb3.heapAt hE2 (by simp)
  have hR3 := Rw.but (Rw.but hR1 hb2 (by simp)) hb3 (by simp)
  have hmb := made_buf W1 W3 hE3
  rw [hsz1] at hmb
  refine ⟨hD3, fun e => (by cases e), fun _ => ⟨rfl, rfl, rfl, rfl⟩, by show 0 + 0 ≤ _; omega, Nat.le_refl _, Nat.le_refl _, hmb, by show 0 ≤ _; omega, by show w.heap.size + 2 ≠ w.heap.size + 1; omega, by show w.heap.size ≠ w.heap.size + 1; omega, by show w.heap.size ≤ w.heap.size + 1; omega, fun e => (by cases e), fun _ => ⟨rfl, ⟨0, ?_, fun _ => rfl, ?_⟩, by show w.heap.size ≠ w.heap.size + 2; omega, fun e => (by cases e)⟩, (((hb1.trans hb2).trans hb3).toBelow), by show 1 ≤ _; omega, Rw.lt hR3⟩
  · show Rw W3 w.heap.size [.string ⟨(s.data.toList.drop (0 + 0)).toArray⟩, .slice (if some0 zs = true then sa else none) (szs zs).length (if some0 zs = true then sc else 0), .int .i64 0, .bool false] _
    have e1 : (⟨(s.data.toList.drop (0 + 0)).toArray⟩ : ByteArray) = s := by simp
    have e2 : Value.slice (if some0 zs = true then sa else none) (szs zs).length (if some0 zs = true then sc else 0) = szv sa zs sc := by
      unfold szs szv
      split <;> rfl
    rw [e1, e2]
    exact hR3
  · show 0 + (s.data.toList.drop (0 + 0)).length * (szs zs).length + dist ((szs zs).findIdx fun z => decide (0 < z)) (szs zs).length 0 ≤ 1000000
    have h1 := dist0 (szs zs) hszl
    have h2 : (s.data.toList.drop (0 + 0)).length * (szs zs).length ≤ 4000 * 100 := Nat.mul_le_mul (by rw [Nat.zero_add, List.drop_zero]; omega) hszl
    omega

set_option maxRecDepth 100000 in
theorem reader26 (s : ByteArray) (sa : Option Addr) (zs : List Int) (sc : Nat) (w : World) (hz : SzAt w sa zs) :
    Calls Tryz.prog 24 #[.string s, .slice sa zs.length sc, .bool false] w fun e w' => e = .returned (.pointer (some ⟨w.heap.size, 0, none⟩)) ∧ w.alloc (.cells #[.string s, szv sa zs sc, .int .i64 0, .bool false] 89) = w' := by
  have HZ := Lib.hid hz
  have hfew := hz.few
  obtain ⟨n, hn⟩ : ∃ n, zs.length = n := ⟨_, rfl⟩
  rw [hn] at hfew
  have HN := Lib.hid hn
  have HFIN : Hid (∀ b, some0 zs = b → szv sa zs sc = if b = true then .slice sa n sc else .slice none 0 0) := Lib.hid fun b hb => by unfold szv; rw [hb, hn]
  rw [hn]
  clear hz hn
  go_enter Tryz.func24, Tryz.ntmps24
  go_wp2_with fail
  go_loopg [7, 9, 12] n (fun g s7 s9 s12 wr => ∃ i : Nat, i + g = n ∧ s12 = .int .i64 i ∧ Hid (s7 = .bool ((zs.take i).any fun z => decide (0 < z))) ∧ w = wr)
  case atStart => exact ⟨0, by omega, rfl, Lib.hid rfl, rfl⟩
  case round =>
    obtain ⟨i, hi, rfl, hs7, rfl⟩ := hrel
    obtain ⟨b7, hb7⟩ : ∃ b7, ((zs.take i).any fun z => decide (0 < z)) = b7 := ⟨_, rfl⟩
    have hs := hs7.out
    rw [hb7] at hs
    have HB7 := Lib.hid hb7
    subst hs
    clear hs7 hb7
    cases gk with
    | zero =>
      have hin : ¬ (i : Int) < (n : Int) := by omega
      have HI := Lib.hid (show i = n by omega)
      have HS : Hid (some0 zs = b7) := Lib.hid (by
        rw [← HB7.out, HI.out, ← HN.out, List.take_length]; rfl)
      have HV := Lib.hid (HFIN.out b7 HS.out)
      clear hi
      cases b7 with
      | true =>
        go_wp2_with fail
        go_ret
        exact ⟨rfl, by rw [HV.out]; rfl⟩
      | false =>
        go_wp2_with fail
        go_ret
        exact ⟨rfl, by rw [HV.out]; rfl⟩
    | succ g =>
      have hin : (i : Int) < (n : Int) := by omega
      have hil : i < zs.length := by rw [HN.out]; omega
      obtain ⟨A, off, rfl, hcell⟩ := HZ.out.at_ i zs[i] (List.getElem?_eq_getElem hil)
      obtain ⟨z, hzz⟩ : ∃ z, zs[i] = z := ⟨_, rfl⟩
      rw [hzz] at hcell
      have HT : Hid (((zs.take (i + 1)).any fun z => decide (0 < z)) = (b7 || decide (0 < z))) := Lib.hid (by
        rw [List.take_succ_eq_append_getElem hil, List.any_append, HB7.out, hzz]; simp)
      clear hzz hil
      cases b7 with
      | true =>
        go_wp2_with fail
        go_roundg g
        case measure => omega
        case rel => exact ⟨i + 1, by omega, by go_num, Lib.hid (by rw [HT.out]; rfl), rfl⟩
      | false =>
        by_cases hz0 : 0 < z
        · go_wp2_with fail
          go_roundg g
          case measure => omega
          case rel => exact ⟨i + 1, by omega, by go_num, Lib.hid (by rw [HT.out]; simp [hz0]), rfl⟩
        · go_wp2_with fail
          go_roundg g
          case measure => omega
          case rel => exact ⟨i + 1, by omega, by go_num, Lib.hid (by rw [HT.out]; simp [hz0]), rfl⟩
theorem new25 (t : TypeId) (v : Value) (w : World) :
    Calls Tryz.prog 23 #[.iface t v] w fun e w' => e = .returned (.pointer (some ⟨w.heap.size + 1, 0, none⟩)) ∧ (w.alloc (.cells (madeCells #[.int .u8 0] 512) 5)).alloc (.cells #[.iface t v, .slice none 0 0, .int .i64 0, .int .i64 0, .bool false, .int .u8 5, .bool false, .slice (some ⟨w.heap.size, 0, none⟩) 0 512, .int .i64 1, .nilIface] 63) = w' := by
  obtain ⟨mc, hmc⟩ : ∃ mc, madeCells #[.int .u8 0] 512 = mc := ⟨_, rfl⟩
  have hmk : ∀ w, (Instr.makeSlice 51 (.int .i64 0) (.int .i64 512)).run Tryz.prog w = .ok (.slice (some ⟨w.heap.size, 0, none⟩) 0 512) (w.alloc (.cells mc 5)) := fun w => by rw [← hmc]; exact make_row w 0 512 (by omega) (by omega)
  rw [hmc]
  go_enter Tryz.func23, Tryz.ntmps23
  go_wp2_with fail
  go_ret
  exact ⟨by simp, rfl⟩
theorem new24 (v : Value) (a : Option Addr) (n c : Nat) (hv : v = .slice a n c) (w : World) :
    Calls Tryz.prog 22 #[.slice a n c] w fun e w' => e = .returned (.pointer (some ⟨w.heap.size + 1, 0, none⟩)) ∧ (w.alloc (.cells (madeCells #[.int .u8 0] 512) 5)).alloc (.cells #[.nilIface, .slice a n c, .int .i64 0, .int .i64 0, .bool true, .int .u8 5, .bool false, .slice (some ⟨w.heap.size, 0, none⟩) 0 512, .int .i64 1, .nilIface] 63) = w' := by
  obtain ⟨mc, hmc⟩ : ∃ mc, madeCells #[.int .u8 0] 512 = mc := ⟨_, rfl⟩
  have hmk : ∀ w, (Instr.makeSlice 51 (.int .i64 0) (.int .i64 512)).run Tryz.prog w = .ok (.slice (some ⟨w.heap.size, 0, none⟩) 0 512) (w.alloc (.cells mc 5)) := fun w => by rw [← hmc]; exact make_row w 0 512 (by omega) (by omega)
  rw [hmc]
  go_enter Tryz.func22, Tryz.ntmps22
  go_wp2_with fail
  go_ret
  exact ⟨by simp, rfl⟩
/-- What a maker leaves. -/
def DecOut (s : ByteArray) (w : World) (e : Ending) (w' : World) : Prop :=
  ∃ G L, e = .returned (.pointer (some ⟨G.D, 0, none⟩)) ∧ Hid (Base G ∧ DL G L w' ∧ G.w0 = w ∧ G.T = s.data.toList ∧ Fresh L)
set_option maxRecDepth 100000 in
theorem decoder15 (s : ByteArray) (hs : s.size ≤ 4000) (sa : Option Addr) (zs : List Int) (sc : Nat) (w : World) (ev : Addr) (hc : Ctx w ev) (hz : SzAt w sa zs) :
    Calls Tryz.prog 13 #[.string s, .slice sa zs.length sc, .bool false] w (DecOut s w) := by
  have hfew := hz.few
  cases zs with
  | nil =>
    have hconv : ∀ w : World, (convert 9 51 (.string s)).run Tryz.prog w = .ok (.slice (some ⟨w.heap.size, 0, none⟩) s.size (grownCap w s.size 0 5)) (Lib.bytesWorld w 5 s) := fun w =>
      Lib.run_convert_string_bytes w 9 51 5 s Tryz.underlying9 Tryz.underlying51 Tryz.underlying5
    have hb := BufAt.of_bytesWorld w s (by omega)
    obtain ⟨W1, hW1⟩ : ∃ W1, Lib.bytesWorld w 5 s = W1 := ⟨_, rfl⟩
    have hbut : But [] w W1 := hW1 ▸ bytes_but [] w 5 s
    have hlen : s.data.toList.length = s.size := by simp
    rw [hW1] at hb
    have HF := fresh_bytes hc s.data.toList (by omega) w.heap.size _ hb (Nat.le_refl _) hbut
    rw [hlen] at HF
    have HF := Lib.hid HF
    have hconv0 : (convert 9 51 (.string s)).run Tryz.prog w = .ok (.slice (some ⟨w.heap.size, 0, none⟩) s.size (grownCap w s.size 0 5)) W1 := by rw [← hW1]; exact hconv w
    have hl0 : ([] : List Int).length = 0 := rfl
    rw [hl0]
    clear hconv hb hW1 hbut hlen hc hz hl0
    go_enter Tryz.func13, Tryz.ntmps13
    go_wp2_with fail
    refine (new24 _ _ _ _ rfl _).mono ?_
    rintro e w2 ⟨rfl, rfl⟩
    go_wp2_with fail
    go_ret
    obtain ⟨G, L, h1, h2⟩ := HF.out
    exact ⟨G, L, by rw [h1]; rfl, Lib.hid h2⟩
  | cons z0 zr =>
    obtain ⟨n, hn⟩ : ∃ n, (z0 :: zr).length = n := ⟨_, rfl⟩
    have hnz : ¬ (n : Int) = 0 := by rw [← hn]; simp; omega
    have HR := reader26 s sa (z0 :: zr) sc w hz
    rw [hn] at HR
    have HR := Lib.hid HR
    have HF := Lib.hid (fresh_rd hc s hs sa (z0 :: zr) sc hz)
    rw [hn]
    clear hn hc hz
    go_enter Tryz.func13, Tryz.ntmps13
    go_wp2_with fail
    refine HR.out.mono ?_
    rintro e w2 ⟨rfl, rfl⟩
    go_wp2_with fail
    refine (new25 _ _ _).mono ?_
    rintro e w3 ⟨rfl, rfl⟩
    go_wp2_with fail
    go_ret
    obtain ⟨G, L, h1, h2⟩ := HF.out
    exact ⟨G, L, by rw [h1]; rfl, Lib.hid h2⟩
end Go.Proofs.YtlcbcgillekphaaGreatDoor.dec
