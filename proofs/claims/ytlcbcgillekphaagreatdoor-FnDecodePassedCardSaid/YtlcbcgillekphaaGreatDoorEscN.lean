/-
  Proved: the contract of newEscaper: the escaper's block, cell for cell, at a text of the characters that the escapers escape.
  Conditions: the text's characters are among the eight that are escaped anywhere.
-/
import Derived.Test.YtlcbcgillekphaaGreatDoorEscQ
import Derived.Lib.BufferAt
namespace Go.Proofs.YtlcbcgillekphaaGreatDoor.esc
open Go.RowKit Mem
set_option linter.unusedVariables false

def rep (c : UInt8) : UInt8 := if c = 10 then 110 else if c = 13 then 114 else if c = 9 then 116 else c
theorem trim_yes (x : UInt8) (w : World) :
    Calls Tryz.prog 96 #[.string ⟨#[92, x]⟩, .string ⟨#[92]⟩] w fun e w' => e = .returned (.string ⟨#[x]⟩) ∧ w = w' := by
  have e1 : (⟨#[92, x]⟩ : ByteArray).extract 0 1 = ⟨#[92]⟩ := by rfl
  have e2 : (⟨#[92, x]⟩ : ByteArray).extract 1 2 = ⟨#[x]⟩ := by rfl
  go_enter Tryz.func96, Tryz.ntmps96
  go_wp2_with (first | (go_at_call 101; go_in) | (go_at_call 103; go_in))
  go_ret
  exact ⟨rfl, rfl⟩
theorem trim_no (x : UInt8) (hx : x ≠ 92) (w : World) :
    Calls Tryz.prog 96 #[.string ⟨#[x]⟩, .string ⟨#[92]⟩] w fun e w' => e = .returned (.string ⟨#[x]⟩) ∧ w = w' := by
  have e1 : (⟨#[x]⟩ : ByteArray).extract 0 1 = ⟨#[x]⟩ := by rfl
  have e3 : (x == 92) = false := beq_eq_false_iff_ne.2 hx
  go_enter Tryz.func96, Tryz.ntmps96
  go_wp2_with (first | (go_at_call 101; go_in) | (go_at_call 103; go_in))
  go_ret
  exact ⟨rfl, rfl⟩

def KnownB (c : UInt8) : Prop := c = 44 ∨ c = 32 ∨ c = 61 ∨ c = 34 ∨ c = 92 ∨ c = 10 ∨ c = 13 ∨ c = 9
theorem KnownB.known {c : UInt8} (h : KnownB c) : Known (c.toNat : Int) := by
  rcases h with rfl | rfl | rfl | rfl | rfl | rfl | rfl | rfl <;> simp [Known]
theorem trim_any (c : UInt8) (hc : KnownB c) (w : World) :
    Calls Tryz.prog 96 #[.string ⟨(quoted (c.toNat : Int)).toArray⟩, .string ⟨#[92]⟩] w fun e w' => e = .returned (.string ⟨#[rep c]⟩) ∧ w = w' := by
  rcases hc with rfl | rfl | rfl | rfl | rfl | rfl | rfl | rfl
  · exact trim_no 44 (by decide) w
  · exact trim_no 32 (by decide) w
  · exact trim_no 61 (by decide) w
  · exact trim_no 34 (by decide) w
  · exact trim_yes 92 w
  · exact trim_yes 110 w
  · exact trim_yes 114 w
  · exact trim_yes 116 w

/-- One character's two cells. -/
def put (cs : Array Value) (c : UInt8) : Array Value := (cs.setIfInBounds c.toNat (.int .u8 (rep c).toNat)).setIfInBounds (256 + (rep c).toNat) (.int .u8 c.toNat)
noncomputable def tabs (l : List UInt8) : Array Value := l.foldl put Tryz.zeroCells101
theorem put_size (cs : Array Value) (c : UInt8) : (put cs c).size = cs.size := by simp [put]
theorem tabs_size (l : List UInt8) : (tabs l).size = 513 := by
  have h0 : Tryz.zeroCells101.size = 513 := by kernel_rfl
  have : ∀ (l : List UInt8) (cs : Array Value), (l.foldl put cs).size = cs.size := by
    intro l
    induction l with
    | nil => intro cs; rfl
    | cons c r ih => intro cs; rw [List.foldl_cons, ih, put_size]
  rw [tabs, this, h0]
theorem tabs_snoc (l : List UInt8) (c : UInt8) : tabs (l ++ [c]) = put (tabs l) c := by simp [tabs]

/-- What the loop keeps. -/
structure NInv (w wr : World) (s : ByteArray) (pos : Nat) : Prop where
  le : pos ≤ s.size
  e : wr.heap[w.heap.size]? = some (.cells (tabs (s.data.toList.take pos)) 101 (0, 0))
  it : wr.heap[w.heap.size + 1]? = some (.stringIter s pos)
  b : Below w.heap.size w wr

theorem quoted_cut (c : UInt8) (hc : KnownB c) : ∃ n : Nat, (quotedStr (c.toNat : Int)).size = n + 2 ∧ (quotedStr (c.toNat : Int)).extract 1 (n + 1) = ⟨(quoted (c.toNat : Int)).toArray⟩ ∧ n ≤ 2 := by
  rcases hc with rfl | rfl | rfl | rfl | rfl | rfl | rfl | rfl
  · exact ⟨1, rfl, rfl, by decide⟩
  · exact ⟨1, rfl, rfl, by decide⟩
  · exact ⟨1, rfl, rfl, by decide⟩
  · exact ⟨1, rfl, rfl, by decide⟩
  · exact ⟨2, rfl, rfl, by decide⟩
  · exact ⟨2, rfl, rfl, by decide⟩
  · exact ⟨2, rfl, rfl, by decide⟩
  · exact ⟨2, rfl, rfl, by decide⟩

set_option maxHeartbeats 4000000 in
theorem new63 (s : ByteArray) (hs : s.size ≤ 100) (hk : ∀ c ∈ s.data.toList, KnownB c) (w : World) :
    Calls Tryz.prog 85 #[.string s] w fun e w' => e = .returned (.pointer (some ⟨w.heap.size, 0, none⟩)) ∧
      w'.heap[w.heap.size]? = some (.cells ((tabs s.data.toList).setIfInBounds 512 (.string s)) 101 (0, 0)) ∧ Below w.heap.size w w' := by
  have HK := Lib.hid hk
  clear hk
  go_enter Tryz.func85, Tryz.ntmps85
  go_wp2_with fail
  go_loopw [5, 6] (fun _ _ wr => ∃ pos, NInv w wr s pos) (fun _ _ wr => s.size - wr.iterPos (w.heap.size + 1))
  case atStart =>
    refine ⟨0, Nat.zero_le _, ?_, ?_, ?_⟩
    · exact ((But.refl [] (w.alloc _)).alloc _).heapAt (heap_alloc_new w _) (by simp)
    · have := World.iter_heap (w.alloc (.cells Tryz.zeroCells101 101)) s 0
      simpa using this
    · exact ((Below.refl _ w).alloc (Nat.le_refl _) _).alloc (by simp) _
  case round =>
    obtain ⟨pos, hI⟩ := hrel
    have hsz : w.heap.size + 1 < wr.heap.size := (Array.getElem?_eq_some_iff.1 hI.it).1
    by_cases hp : pos < s.size
    · have hpl : pos < s.data.toList.length := by simpa using hp
      have hkc : KnownB (s[pos]'hp) := HK.out _ (by show s.data[pos] ∈ _; simp)
      have htk : s.data.toList.take (pos + 1) = s.data.toList.take pos ++ [s[pos]'hp] := by
        rw [List.take_succ_eq_append_getElem hpl]
        rfl
      have hlt : (s[pos]'hp).toNat < 128 := by rcases hkc with h | h | h | h | h | h | h | h <;> rw [h] <;> decide
      have hnx : ∀ ty, (Instr.next (.pointer (some ⟨w.heap.size + 1, 0, none⟩)) true ty).run Tryz.prog wr = _ := fun ty => Lib.run_next_ascii_at wr (w.heap.size + 1) s pos ty hI.it hp hlt
      generalize s[pos]'hp = c at *
      have e1 := (Lib.iterAt_other wr (w.heap.size + 1) w.heap.size s (pos + 1) (by omega)).trans hI.e
      have it1 := Lib.iterAt_heap wr (w.heap.size + 1) s pos (pos + 1) hI.it
      have b1 := Lib.below_iterAt hI.b (k := w.heap.size + 1) (by omega) s (pos + 1)
      have hs1 := Lib.iterAt_size wr (w.heap.size + 1) s (pos + 1)
      have him : s.size - wr.iterPos (w.heap.size + 1) = s.size - pos := by simp [World.iterPos, hI.it]
      rw [him]
      generalize wr.iterAt (w.heap.size + 1) s (pos + 1) = W1 at *
      have hkn := hkc.known
      have htr := trim_any c hkc
      obtain ⟨n, hq1, hq2, hq3⟩ := quoted_cut c hkc
      have hqu := quote70 (c.toNat : Int) hkn
      have hw8 : IntKind.u8.wrap (c.toNat : Int) = (c.toNat : Int) := by rw [IntKind.wrap_u8]; omega
      generalize quotedStr (c.toNat : Int) = q at *
      generalize quoted (c.toNat : Int) = ql at *
      have hr1 := (rep c).toNat_lt
      have HI := Lib.hid hI
      have E1 := Lib.hid e1
      have I1 := Lib.hid it1
      have B1 := Lib.hid b1
      have HT := Lib.hid htk
      have HTR := Lib.hid htr
      have HQU := Lib.hid hqu
      clear hI e1 it1 b1 htk htr hqu hkc hkn
      have hn1 : (1 : Int) ≤ (n : Int) + 1 := by omega
      go_wp2_with fail
      refine (HQU.out _).mono ?_
      rintro e w2 ⟨rfl, hb2⟩
      have hs2 := hb2.size
      have E2 := Lib.hid ((hb2.block _ (by omega)).trans E1.out)
      have I2 := Lib.hid ((hb2.block _ (by omega)).trans I1.out)
      have B2 := Lib.hid (B1.out.trans (hb2.mono (by omega)))
      clear hb2 E1 I1 B1
      go_wp2_with fail
      refine (HTR.out _).mono ?_
      rintro e w3 ⟨rfl, rfl⟩
      have hts := tabs_size (s.data.toList.take pos)
      have htn := tabs_snoc (s.data.toList.take pos) c
      rw [← HT.out] at htn
      generalize tabs (s.data.toList.take pos) = cs at *
      have hl1 : c.toNat < cs.size := by omega
      have hl2 : 256 + (rep c).toNat < cs.size := by omega
      have k1 : w2.cell? ⟨w.heap.size, c.toNat, none⟩ = some cs[c.toNat] := by rw [cell_of_row _ _ _ _ _ _ E2.out]; simp [hl1]
      have f1 : w2.frozen? ⟨w.heap.size, c.toNat, none⟩ = false := frozen_of_row _ _ _ _ _ E2.out
      have k2 : w2.cell? ⟨w.heap.size, 256 + (rep c).toNat, none⟩ = some cs[256 + (rep c).toNat] := by rw [cell_of_row _ _ _ _ _ _ E2.out]; simp [hl2]
      have f2 : w2.frozen? ⟨w.heap.size, 256 + (rep c).toNat, none⟩ = false := frozen_of_row _ _ _ _ _ E2.out
      have hne : ¬ c.toNat = 256 + (rep c).toNat := by omega
      generalize cs[c.toNat] = x1 at *
      generalize cs[256 + (rep c).toNat] = x2 at *
      have HTS := Lib.hid hts
      have HTN := Lib.hid htn
      clear hts htn
      have e0 : ∀ h, (⟨#[rep c]⟩ : ByteArray)[0]'h = rep c := fun _ => rfl
      go_wp2
      go_roundw
      case rel =>
        refine ⟨pos + 1, by omega, ?_, ?_, ?_⟩
        · have h1 := Lib.heap_setCell_same (i := c.toNat) E2.out (.int .u8 (rep c).toNat)
          have h2 := Lib.heap_setCell_same (i := 256 + (rep c).toNat) h1 (.int .u8 c.toNat)
          rw [HTN.out]
          exact h2
        · rw [Below.heap_setCell _ _ _ _ (by simp), Below.heap_setCell _ _ _ _ (by simp)]
          exact I2.out
        · exact (B2.out.setCell (Nat.le_refl _) _).setCell (Nat.le_refl _) _
      case measure =>
        have hi : ((w2.setCell ⟨w.heap.size, c.toNat, none⟩ (.int .u8 (rep c).toNat)).setCell ⟨w.heap.size, 256 + (rep c).toNat, none⟩ (.int .u8 c.toNat)).iterPos (w.heap.size + 1) = pos + 1 := by
          unfold World.iterPos
          rw [Below.heap_setCell _ _ _ _ (by simp), Below.heap_setCell _ _ _ _ (by simp), I2.out]
        rw [hi]
        omega
    · have hnx : ∀ ty, (Instr.next (.pointer (some ⟨w.heap.size + 1, 0, none⟩)) true ty).run Tryz.prog wr = _ := fun ty => Lib.run_next_end_at wr (w.heap.size + 1) s pos ty hI.it hp
      have hpe : pos = s.size := by have := hI.le; omega
      have htk : s.data.toList.take pos = s.data.toList := by rw [hpe]; exact List.take_of_length_le (by simp)
      have he := hI.e
      rw [htk] at he
      have hts := tabs_size s.data.toList
      obtain ⟨cs, hcs⟩ : ∃ cs, tabs s.data.toList = cs := ⟨_, rfl⟩
      have HCS := Lib.hid hcs
      rw [hcs] at he hts
      clear hcs
      have hl1 : 512 < cs.size := by omega
      have k1 : wr.cell? ⟨w.heap.size, 512, none⟩ = some cs[512] := by rw [cell_of_row _ _ _ _ _ _ he]; simp [hl1]
      have f1 : wr.frozen? ⟨w.heap.size, 512, none⟩ = false := frozen_of_row _ _ _ _ _ he
      generalize cs[512] = x1 at *
      have HE := Lib.hid he
      have HB := Lib.hid hI.b
      clear he hI htk hts
      go_wp2
      go_ret
      rw [HCS.out]
      refine ⟨rfl, Lib.heap_setCell_same (i := 512) HE.out _, HB.out.setCell (Nat.le_refl _) _⟩

/-- The escapers: which characters each escapes (0 of measurements, 1 of tag keys, 2 of tag values, 3 of field keys, 4 of strings). -/
def escs (k : Int) : List UInt8 := if k = 0 then [32, 44] else if k = 1 then [44, 61, 32] else if k = 2 then [44, 32, 61] else if k = 3 then [44, 61, 32] else [92, 34, 10, 13, 9]
def tab (k : Int) (c : UInt8) : UInt8 := if c ∈ escs k then rep c else 0
def rev (k : Int) (c : UInt8) : UInt8 := ((escs k).find? (fun x => rep x == c)).getD 0
def escCells (k : Int) : Array Value := ((List.range 256).map (fun c => Value.int .u8 (tab k (UInt8.ofNat c)).toNat) ++ (List.range 256).map (fun c => Value.int .u8 (rev k (UInt8.ofNat c)).toNat) ++ [Value.string ⟨(escs k).toArray⟩]).toArray
/-- An escaper lies at E. -/
def EscAt (w : World) (E : Nat) (k : Int) : Prop := w.heap[E]? = some (.cells (escCells k) 101 (0, 0))
theorem cells0 : (tabs (escs 0)).setIfInBounds 512 (.string ⟨(escs 0).toArray⟩) = escCells 0 := by kernel_rfl
theorem cells1 : (tabs (escs 1)).setIfInBounds 512 (.string ⟨(escs 1).toArray⟩) = escCells 1 := by kernel_rfl
theorem cells2 : (tabs (escs 2)).setIfInBounds 512 (.string ⟨(escs 2).toArray⟩) = escCells 2 := by kernel_rfl
theorem cells4 : (tabs (escs 4)).setIfInBounds 512 (.string ⟨(escs 4).toArray⟩) = escCells 4 := by kernel_rfl

theorem esc_at0 (w : World) :
    Calls Tryz.prog 53 #[] w fun e w' => e = .returned (.pointer (some ⟨w.heap.size, 0, none⟩)) ∧ EscAt w' w.heap.size 0 ∧ Below w.heap.size w w' := by
  have hn := new63 ⟨#[32, 44]⟩ (by decide) (by simp [KnownB]) w
  have hc := cells0
  have HN := Lib.hid hn
  have HC := Lib.hid hc
  clear hn hc
  go_enter Tryz.func53, Tryz.ntmps53
  go_wp2_with fail
  refine HN.out.mono ?_
  rintro e w1 ⟨rfl, h1, hb⟩
  have h2 : EscAt w1 w.heap.size 0 := by unfold EscAt; rw [← HC.out]; exact h1
  have H2 := Lib.hid h2
  clear h1 h2
  go_wp2
  go_ret
  exact ⟨rfl, H2.out, hb⟩

theorem esc_at1 (w : World) :
    Calls Tryz.prog 60 #[] w fun e w' => e = .returned (.pointer (some ⟨w.heap.size, 0, none⟩)) ∧ EscAt w' w.heap.size 1 ∧ Below w.heap.size w w' := by
  have hn := new63 ⟨#[44, 61, 32]⟩ (by decide) (by simp [KnownB]) w
  have hc := cells1
  have HN := Lib.hid hn
  have HC := Lib.hid hc
  clear hn hc
  go_enter Tryz.func60, Tryz.ntmps60
  go_wp2_with fail
  refine HN.out.mono ?_
  rintro e w1 ⟨rfl, h1, hb⟩
  have h2 : EscAt w1 w.heap.size 1 := by unfold EscAt; rw [← HC.out]; exact h1
  have H2 := Lib.hid h2
  clear h1 h2
  go_wp2
  go_ret
  exact ⟨rfl, H2.out, hb⟩

theorem esc_at2 (w : World) :
    Calls Tryz.prog 62 #[] w fun e w' => e = .returned (.pointer (some ⟨w.heap.size, 0, none⟩)) ∧ EscAt w' w.heap.size 2 ∧ Below w.heap.size w w' := by
  have hn := new63 ⟨#[44, 32, 61]⟩ (by decide) (by simp [KnownB]) w
  have hc := cells2
  have HN := Lib.hid hn
  have HC := Lib.hid hc
  clear hn hc
  go_enter Tryz.func62, Tryz.ntmps62
  go_wp2_with fail
  refine HN.out.mono ?_
  rintro e w1 ⟨rfl, h1, hb⟩
  have h2 : EscAt w1 w.heap.size 2 := by unfold EscAt; rw [← HC.out]; exact h1
  have H2 := Lib.hid h2
  clear h1 h2
  go_wp2
  go_ret
  exact ⟨rfl, H2.out, hb⟩

theorem esc_at4 (w : World) :
    Calls Tryz.prog 66 #[] w fun e w' => e = .returned (.pointer (some ⟨w.heap.size, 0, none⟩)) ∧ EscAt w' w.heap.size 4 ∧ Below w.heap.size w w' := by
  have hn := new63 ⟨#[92, 34, 10, 13, 9]⟩ (by decide) (by simp [KnownB]) w
  have hc := cells4
  have HN := Lib.hid hn
  have HC := Lib.hid hc
  clear hn hc
  go_enter Tryz.func66, Tryz.ntmps66
  go_wp2_with fail
  refine HN.out.mono ?_
  rintro e w1 ⟨rfl, h1, hb⟩
  have h2 : EscAt w1 w.heap.size 4 := by unfold EscAt; rw [← HC.out]; exact h1
  have H2 := Lib.hid h2
  clear h1 h2
  go_wp2
  go_ret
  exact ⟨rfl, H2.out, hb⟩

theorem esc_at3 (w : World) :
    Calls Tryz.prog 64 #[] w fun e w' => e = .returned (.pointer (some ⟨w.heap.size, 0, none⟩)) ∧ EscAt w' w.heap.size 3 ∧ Below w.heap.size w w' := by
  go_enter Tryz.func64, Tryz.ntmps64
  go_wp2_with fail
  refine (esc_at1 _).mono ?_
  rintro e w1 ⟨rfl, h1, hb⟩
  have H2 := Lib.hid h1
  clear h1
  go_wp2
  go_ret
  exact ⟨rfl, H2.out, hb⟩


theorem EscAt.tab {w : World} {E : Nat} {k : Int} (h : EscAt w E k) (c : UInt8) : w.cell? ⟨E, c.toNat, none⟩ = some (.int .u8 (tab k c).toNat) := by
  rw [cell_of_row _ _ _ _ _ _ h]
  have hc : c.toNat < 256 := c.toNat_lt
  simp only [escCells, List.getElem?_toArray, List.append_assoc]
  rw [List.getElem?_append_left (by simpa using hc)]
  simp [hc]
theorem EscAt.rev {w : World} {E : Nat} {k : Int} (h : EscAt w E k) (c : UInt8) : w.cell? ⟨E, 256 + c.toNat, none⟩ = some (.int .u8 (rev k c).toNat) := by
  rw [cell_of_row _ _ _ _ _ _ h]
  have hc : c.toNat < 256 := c.toNat_lt
  simp only [escCells, List.getElem?_toArray, List.append_assoc]
  rw [List.getElem?_append_right (by simp), List.getElem?_append_left (by simpa using hc)]
  simp [hc]
theorem EscAt.str {w : World} {E : Nat} {k : Int} (h : EscAt w E k) : w.cell? ⟨E, 512, none⟩ = some (.string ⟨(escs k).toArray⟩) := by
  rw [cell_of_row _ _ _ _ _ _ h]
  simp [escCells]
end Go.Proofs.YtlcbcgillekphaaGreatDoor.esc
