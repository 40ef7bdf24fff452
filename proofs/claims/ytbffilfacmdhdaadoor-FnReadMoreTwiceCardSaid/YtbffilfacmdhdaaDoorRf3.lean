/-
  Proved: the contracts of newPieces, of (pieces).source and left, of stateOf at nil.
  Conditions: a text of at most 4000 bytes, sizes of at most 100 pieces in memory.
-/
import Derived.Test.YtbffilfacmdhdaaDoorRf2
namespace Go.Proofs.YtbffilfacmdhdaaDoor.dec
open Go.RowKit Mem rw
set_option linter.unusedVariables false
set_option linter.unusedSimpArgs false

/-- A buffered reader over a text, made new. -/
theorem bx_new {w w2 w4 : World} (s : ByteArray) (hs : s.size ≤ 4000) (sa : Option Addr) (zs : List Int) (sc R X B : Nat) (hz : SzAt w sa zs) (hb : But [] w w2) (hr : Rw w2 R [.string s, szv sa zs sc, .int .i64 0, .bool false] 61) (hR : w.heap.size ≤ R)
    (hn : ∃ w3, But [] w2 w3 ∧ BNew w3 R X B w4) : ∃ G, G.R = R ∧ G.w0 = w ∧ Base G ∧ BX G X B w4 [] 0 s.data.toList 0 (-1) (-1) ∧ But [] w w4 := by
  obtain ⟨w3, hb3, hn⟩ := hn
  have hszl : (szs zs).length ≤ 100 := by unfold szs; split; exact hz.few; simp
  have hR2 : R < w2.heap.size := Rw.lt hr
  have hb34 : But [] w2 w4 := hb3.trans hn.but
  have hs3 := hb3.size
  have hx := hn.x
  have hxb := hn.xb
  refine ⟨⟨w, R, if some0 zs = true then sa else none, if some0 zs = true then sc else 0, szs zs⟩, rfl, rfl, ⟨fun j z h => ?_, szs_some, hszl, fun z hm => ?_, hR⟩, ?_, hb.trans hb34⟩
  · change (szs zs)[j]? = some z at h
    show ∃ A off, (if some0 zs = true then sa else none) = _ ∧ _
    unfold szs at h
    split at h
    · next hs0 => rw [if_pos hs0]; exact hz.at_ j z h
    · simp at h
  · change z ∈ szs zs at hm
    unfold szs at hm
    split at hm
    · exact hz.big z hm
    · simp at hm
  have hws := hb.size
  refine ⟨hn.row, hn.buf, Nat.le_refl _, ⟨?_, fun _ => rfl, ?_⟩, by simp; omega, by omega, by show R ≠ B; omega, by show R ≠ X; omega, by show w.heap.size ≤ X; omega, by show w.heap.size ≤ B; omega, (hb.trans hb34).toBelow⟩
  · show Rw w4 R [.string ⟨(s.data.toList).toArray⟩, .slice (if some0 zs = true then sa else none) (szs zs).length (if some0 zs = true then sc else 0), .int .i64 0, .bool false] _
    have e1 : (⟨(s.data.toList).toArray⟩ : ByteArray) = s := by simp
    have e2 : Value.slice (if some0 zs = true then sa else none) (szs zs).length (if some0 zs = true then sc else 0) = szv sa zs sc := by
      unfold szs szv
      split <;> rfl
    rw [e1, e2]
    exact Rw.but hr hb34 (by simp)
  · show 0 + s.data.toList.length * (szs zs).length + dist ((szs zs).findIdx fun z => decide (0 < z)) (szs zs).length 0 ≤ 1000000
    have h1 := dist0 (szs zs) hszl
    have h2 : s.data.toList.length * (szs zs).length ≤ 4000 * 100 := Nat.mul_le_mul (by simp; omega) hszl
    omega
/-- Pieces in memory. -/
def NpOut (s : ByteArray) (w : World) (e : Ending) (w' : World) : Prop :=
  ∃ G X B, e = .returned (.agg #[.pointer (some ⟨G.R, 0, none⟩), .iface 82 (.pointer (some ⟨X, 0, none⟩))]) ∧ Hid (Base G ∧ BX G X B w' [] 0 s.data.toList 0 (-1) (-1) ∧ G.w0 = w ∧ X < w'.heap.size ∧ B < w'.heap.size ∧ G.R < w'.heap.size)
set_option maxRecDepth 100000 in
theorem pieces8 (s : ByteArray) (hs : s.size ≤ 4000) (sa : Option Addr) (zs : List Int) (sc : Nat) (w : World) (hz : SzAt w sa zs) :
    Calls Tryd.prog 8 #[.string s, .slice sa zs.length sc] w (NpOut s w) := by
  obtain ⟨W1, hW1⟩ : ∃ W1, w.alloc (.cells #[.pointer none, .nilIface] 33) = W1 := ⟨_, rfl⟩
  have r1 := Rw.new w [.pointer none, .nilIface] 33
  have s1 := alloc_size w (.cells #[.pointer none, .nilIface] 33)
  have b1 := (But.refl [] w).alloc (.cells #[.pointer none, .nilIface] 33)
  rw [hW1] at r1 s1 b1
  have HR := Lib.hid (reader15 s sa zs sc W1 (hz.below b1.toBelow))
  obtain ⟨n, hn⟩ : ∃ n, zs.length = n := ⟨_, rfl⟩
  rw [hn] at HR ⊢
  have HF := Lib.hid (And.intro hz (And.intro r1 (And.intro b1 s1)))
  clear hz r1 b1 hn
  go_enter Tryd.func8, Tryd.ntmps8
  go_wp2_with fail
  refine HR.out.mono ?_
  rintro e w2 ⟨rfl, hw2⟩
  have HW2 := Lib.hid hw2
  clear hw2 HR
  have HO := Lib.hid (opts16 w2)
  go_wp2_with fail
  refine HO.out.mono ?_
  rintro e w3 ⟨O, rfl, k3, hb3⟩
  have HB3 := Lib.hid hb3
  clear hb3 HO
  have HG := Lib.hid (get25 (w.heap.size + 1) w3)
  go_wp2_with fail
  refine HG.out.mono ?_
  rintro e w4 ⟨X, B, rfl, h4⟩
  obtain ⟨hz, r1, b1, s1⟩ := HF.out
  have hw2 := HW2.out
  have b2 := (But.refl [] W1).alloc (.cells #[.string s, szv sa zs sc, .int .i64 0, .bool false] 61)
  have r2 := Rw.new W1 [.string s, szv sa zs sc, .int .i64 0, .bool false] 61
  rw [hw2] at b2 r2
  rw [s1] at r2
  obtain ⟨G, g1, g2, g3, g4, g5⟩ := bx_new s hs sa zs sc (w.heap.size + 1) X B hz (b1.trans b2) r2 (by omega) ⟨w3, HB3.out, h4.out⟩
  have b4 : But [] W1 w4 := (b2.trans HB3.out).trans h4.out.but
  have x1 := Rw.but r1 b4 (by simp)
  have k0 : w4.cell? ⟨w.heap.size, 0, none⟩ = some (.pointer none) := Rw.cell x1 0
  have k1 : w4.cell? ⟨w.heap.size, 1, none⟩ = some .nilIface := Rw.cell x1 1
  have f0 : w4.frozen? ⟨w.heap.size, 0, none⟩ = false := Rw.fz x1 0
  have f1 : w4.frozen? ⟨w.heap.size, 1, none⟩ = false := Rw.fz x1 1
  have hlt := Rw.lt r2
  have hl4 := b4.size
  have hX := h4.out.x
  have hXB := h4.out.xb
  have hB := h4.out.lt
  have hl3 := HB3.out.size
  obtain ⟨W5, hW5⟩ : ∃ W5, (w4.setCell ⟨w.heap.size, 0, none⟩ (.pointer (some ⟨(w.heap.size + 1), 0, none⟩))).setCell ⟨w.heap.size, 1, none⟩ (.iface 82 (.pointer (some ⟨X, 0, none⟩))) = W5 := ⟨_, rfl⟩
  have x5 := Rw.set (Rw.set x1 0 (.pointer (some ⟨(w.heap.size + 1), 0, none⟩))) 1 (.iface 82 (.pointer (some ⟨X, 0, none⟩)))
  have b5 := ((But.refl [w.heap.size] w4).setCell (p := ⟨w.heap.size, 0, none⟩) (Or.inl (by simp)) (.pointer (some ⟨(w.heap.size + 1), 0, none⟩))).setCell (p := ⟨w.heap.size, 1, none⟩) (Or.inl (by simp)) (.iface 82 (.pointer (some ⟨X, 0, none⟩)))
  rw [hW5] at x5 b5
  have e0 : W5.cell? ⟨w.heap.size, 0, none⟩ = some (.pointer (some ⟨(w.heap.size + 1), 0, none⟩)) := Rw.cell x5 0
  have e1 : W5.cell? ⟨w.heap.size, 1, none⟩ = some (.iface 82 (.pointer (some ⟨X, 0, none⟩))) := Rw.cell x5 1
  have hs5 := b5.size
  have HN : Hid (Base G ∧ BX G X B W5 [] 0 s.data.toList 0 (-1) (-1) ∧ G.w0 = w ∧ X < W5.heap.size ∧ B < W5.heap.size ∧ G.R < W5.heap.size ∧ G.R = (w.heap.size + 1)) := Lib.hid ⟨g3, g4.else_ b5 (by omega) (by omega) (by rw [g1]; omega) (by rw [g2]; omega), g2, by omega, by omega, by rw [g1]; omega, g1⟩
  clear h4 g1 g2 g3 g4 g5 hz r1 b1 hw2 b2 r2 b4 x1 x5 b5 HF HB3 HW2 hlt hl4 hX hXB hB hl3 hs5 k3
  go_wp2_with fail
  refine bodyPost_ret (v := .agg #[.pointer (some ⟨w.heap.size + 1, 0, none⟩), .iface 82 (.pointer (some ⟨X, 0, none⟩))]) (by simp [results, Tryd.results8, go_sem, e0, e1]) rfl ?_
  exact ⟨G, X, B, by rw [HN.out.2.2.2.2.2.2], Lib.hid ⟨HN.out.1, HN.out.2.1, HN.out.2.2.1, HN.out.2.2.2.1, HN.out.2.2.2.2.1, HN.out.2.2.2.2.2.1⟩⟩
end Go.Proofs.YtbffilfacmdhdaaDoor.dec
