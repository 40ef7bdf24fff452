/-
  Proved: the contract of impl.RawWrite: it returns the text that it was given, and that all went well; new blocks alone come into the memory.
  Conditions: a text of at most 2000 bytes.
-/
import Derived.Test.YtdlimgghcpbkcaaMem
import Derived.Test.YtdlimgghcpbkcaaShelf
import Derived.Lib.BufferAt
import Derived.Outline
import Derived.WalkLawsBesides
import Derived.WalkSpells
import Derived.Lib.Hide
import Derived.BigQuiet
import Derived.Deep.QuietTactic
import Derived.Deep.RegionHeld3
namespace Go.Proofs.Ytdlimgghcpbkcaa.raw
open Go.RowKit Mem
set_option linter.unusedVariables false

theorem pool48 (n : Int) (w : World) :
    Calls Try.prog 48 #[.int .i64 n] w fun e w' => (∃ k, e = .returned (.pointer (some ⟨k, 0, none⟩))) ∧ But [] w w' := by
  go_enter Try.func48, Try.ntmps48
  go_wp2
  go_ret
  exact ⟨⟨_, rfl⟩, (But.refl _ _).alloc _⟩
theorem pool49 (w : World) :
    Calls Try.prog 49 #[] w fun e w' => (∃ k, e = .returned (.pointer (some ⟨k, 0, none⟩))) ∧ But [] w w' := by
  go_enter Try.func49, Try.ntmps49
  go_wp2
  go_ret
  exact ⟨⟨_, rfl⟩, (But.refl _ _).alloc _⟩
theorem opts36 (w : World) :
    Calls Try.prog 36 #[] w fun e w' => (∃ k, e = .returned (.pointer (some ⟨k, 0, none⟩))) ∧ But [] w w' := by
  have hmf : ∀ (fn : Fn) (first cap : Array Value) (w : World), (Instr.makeFunc fn first cap).run Try.prog w = .ok (.func fn first cap) w := fun _ _ _ _ => rfl
  go_enter Try.func36, Try.ntmps36
  go_wp2_with fail
  refine (pool48 _ _).mono ?_
  rintro e w1 ⟨⟨k1, rfl⟩, hb1⟩
  go_wp2_with fail
  refine (pool49 _).mono ?_
  rintro e w2 ⟨⟨k2, rfl⟩, hb2⟩
  go_wp2
  go_ret
  exact ⟨⟨_, rfl⟩, (hb1.trans hb2).alloc _⟩
theorem state24 (w : World) :
    Calls Try.prog 24 #[.nilIface] w fun e w' => e = .returned (.int .i64 0) ∧ w = w' := by
  go_enter Try.func24, Try.ntmps24
  go_wp2
  go_ret
  exact ⟨rfl, rfl⟩

theorem method_write (a : Addr) (w : World) : (method 293 73 (.pointer (some a)) "Write").run Try.prog w = .ok (91, .pointer (some a)) w := by kernel_rfl
theorem nil_write (a : Addr) (w : World) : (nilAhead 293 73 (.pointer (some a)) "Write").run Try.prog w = .ok (some false) w := by kernel_rfl

theorem marshal35 (T : TypeId) (R : Nat → Option Value) (B b : Nat) (cs : List Value) (A n c : Nat) (o : Value) (w : World) (h : LibA.IsBuffer T R 5 B b 0 [] w) (hBw : B ≤ w.heap.size) (hn : cs.length = n) (hab : A ≠ b)
    (hsrc : ∀ j v, cs[j]? = some v → w.cell? ⟨A, j, none⟩ = some v) (h1c : ∀ v ∈ cs, v.oneCell' = true) (hlim : n ≤ 140737488355328) :
    Calls Try.prog 35 #[.slice (some ⟨A, 0, none⟩) n c, .iface 73 (.pointer (some ⟨b, 0, none⟩)), o] w fun e w' => e = .returned .nilIface ∧ LibA.IsBuffer T R 5 B b 0 cs w' ∧ Below B w w' := by
  have hm := method_write ⟨b, 0, none⟩
  have hna := nil_write ⟨b, 0, none⟩
  have HS := Lib.hid hsrc
  have H1 := Lib.hid h1c
  have HH := Lib.hid h
  clear hsrc h1c h
  go_enter Try.func35, Try.ntmps35
  go_wp2_with fail
  refine (Try.Buffer_Write_at T R B b 0 [] cs ⟨A, 0, none⟩ n c w HH.out hBw (by simp) hn hab (fun j v hj => by have := HS.out j v hj; by_cases h0 : j = 0 <;> simp_all [Addr.add]) H1.out (by simpa using hlim)).mono ?_
  rintro e w1 ⟨rfl, hb, hbe, _⟩
  have HB := Lib.hid hb
  clear hb
  go_wp2
  go_ret
  exact ⟨rfl, by simpa using HB.out, hbe⟩

theorem catch34 (p q : Addr) (w : World) :
    CallsD Try.prog 34 #[.pointer (some p), .pointer (some q)] .returning w fun e u' w' => e = .returned (.tuple #[]) ∧ u' = .returning ∧ w = w' := by
  refine callsD_of_wpS Try.func34 rfl fun c₀ cs hu => ?_
  apply wpS_seq
  apply wpS_region
  simp [wpOpsS, go_sem, recoverD, hu, Try.ntmps34, Exit.thenS]
  refine wpS_cond (t := false) (by simp [Act.eval, Array.replicate]) ?_
  simp only [Bool.false_eq_true, if_false]
  refine wpS_of_wp (wp_skip ?_)
  cases c₀
  simp_all [bodyPostS, results, Try.results34]

set_option maxHeartbeats 4000000 in
theorem write19 (s : ByteArray) (w : World) (hs : s.size ≤ 2000) :
    Calls Try.prog 19 #[.string s] w fun e w' => e = .returned (.tuple #[.string s, .int .i64 0]) ∧ Below w.heap.size w w' := by
  have hmf : ∀ (fn : Fn) (first cap : Array Value) (w : World), (Instr.makeFunc fn first cap).run Try.prog w = .ok (.func fn first cap) w := fun _ _ _ _ => rfl
  have hconv : ∀ w : World, (convert 9 71 (.string s)).run Try.prog w = .ok (.slice (some ⟨w.heap.size, 0, none⟩) s.size (grownCap w s.size 0 5)) (Lib.bytesWorld w 5 s) := fun w =>
    Lib.run_convert_string_bytes w 9 71 5 s Try.underlying9 Try.underlying71 Try.underlying5
  obtain ⟨W3, hW3⟩ : ∃ W3, ((w.alloc (.cells #[.string ⟨#[]⟩] 9)).alloc (.cells #[.int .i64 0] 3)).alloc (.cells #[.slice none 0 0, .int .i64 0, .int .i8 0] 70) = W3 := ⟨_, rfl⟩
  have b3 : But [] w W3 := hW3 ▸ (((But.refl [] w).alloc _).alloc _).alloc _
  have s3 : W3.heap.size = w.heap.size + 1 + 1 + 1 := by rw [← hW3]; simp
  have h0 : W3.heap[w.heap.size]? = some (.cells #[.string ⟨#[]⟩] 9 (0, 0)) := hW3 ▸ (((But.refl [] _).alloc _).alloc _).heapAt (heap_alloc_new w _) (by simp)
  have h1 : W3.heap[w.heap.size + 1]? = some (.cells #[.int .i64 0] 3 (0, 0)) := by
    have h := heap_alloc_new (w.alloc (.cells #[.string ⟨#[]⟩] 9)) (.cells #[.int .i64 0] 3)
    have e : (w.alloc (.cells #[.string ⟨#[]⟩] 9)).heap.size = w.heap.size + 1 := by simp
    rw [e] at h
    rw [← hW3]
    exact ((But.refl [] _).alloc _).heapAt h (by simp)
  have kb : W3.heap[w.heap.size + 1 + 1]? = some (.cells #[.slice none 0 0, .int .i64 0, .int .i8 0] 70 (0, 0)) := by
    have h := heap_alloc_new ((w.alloc (.cells #[.string ⟨#[]⟩] 9)).alloc (.cells #[.int .i64 0] 3)) (.cells #[.slice none 0 0, .int .i64 0, .int .i8 0] 70)
    have e : ((w.alloc (.cells #[.string ⟨#[]⟩] 9)).alloc (.cells #[.int .i64 0] 3)).heap.size = w.heap.size + 1 + 1 := by simp
    rw [e] at h
    rw [← hW3]
    exact h
  have hb : LibA.IsBuffer 70 (fun _ => none) 5 (w.heap.size + 1 + 1) (w.heap.size + 1 + 1) 0 [] W3 := LibA.zero_isBuffer (Nat.le_refl _) (LibA.three_whole kb)
  have hbu := bytes_but [] W3 5 s
  have hsz := Lib.bytesWorld_size W3 5 s
  have hbc := fun j hj => Lib.bytesWorld_cell W3 5 s j hj
  have hbb : LibA.IsBuffer 70 (fun _ => none) 5 (w.heap.size + 1 + 1) (w.heap.size + 1 + 1) 0 [] (Lib.bytesWorld W3 5 s) := LibA.zero_isBuffer (Nat.le_refl _) (LibA.three_whole (hbu.heapAt kb (by simp)))
  have H0 := Lib.hid h0
  have H1 := Lib.hid h1
  have HBU := Lib.hid hbu
  have HSZ := Lib.hid hsz
  have HBC := Lib.hid hbc
  have HBB := Lib.hid hbb
  have S3 := Lib.hid s3
  clear h0 h1 hbu hsz hbc hbb s3 hb kb
  go_enter_defers Try.func19, Try.ntmps19
  go_wp2_with fail
  have HW := Lib.hid hW3
  clear hW3
  refine (opts36 _).mono ?_
  rintro e w1 ⟨⟨k1, rfl⟩, hb1⟩
  have HB1 := Lib.hid hb1
  clear hb1
  go_wp2_with fail
  have hbu1 := HBU.out.trans HB1.out
  have hs1 : w.heap.size + 1 + 1 + 1 < w1.heap.size := by
    have := HB1.out.size
    rw [HSZ.out, S3.out] at this
    omega
  have hi1 : LibA.IsBuffer 70 (fun _ => none) 5 (w.heap.size + 1 + 1) (w.heap.size + 1 + 1) 0 [] w1 := LibA.IsBuffer.old HBB.out HB1.out.toBelow
  have HBU1 := Lib.hid hbu1
  have HI1 := Lib.hid hi1
  clear hbu1 hi1
  refine (marshal35 70 (fun _ => none) (w.heap.size + 1 + 1) (w.heap.size + 1 + 1) (Lib.byteCells s.data.toList) W3.heap.size s.size _ _ w1 HI1.out (by omega) (by rw [Lib.byteCells_length, ← Lib.size_eq]) (by rw [S3.out]; omega) ?_ (Lib.byteCells_one _) (by omega)).mono ?_
  · intro j v hj
    simp only [Lib.byteCells, List.getElem?_map, Option.map_eq_some_iff] at hj
    obtain ⟨x, hx, rfl⟩ := hj
    have hlt : j < s.data.toList.length := (List.getElem?_eq_some_iff.1 hx).1
    have hc := HBC.out j (by simpa using hlt)
    rw [HB1.out.cellAt hc (by simp)]
    simp [List.getD, hx]
  rintro e w2 ⟨rfl, hb2, hbe2⟩
  have h02 := (hbe2.block w.heap.size (by omega)).trans (HBU1.out.heapAt H0.out (by simp))
  have h12 := (hbe2.block (w.heap.size + 1) (by omega)).trans (HBU1.out.heapAt H1.out (by simp))
  have HBE := Lib.hid hbe2
  have HB2 := Lib.hid hb2
  have H02 := Lib.hid h02
  have H12 := Lib.hid h12
  clear hbe2 hb2 h02 h12
  go_wp2_with fail
  refine (Try.Buffer_String_at 70 _ _ _ _ _ _ HB2.out).mono ?_
  rintro e w3 ⟨rfl, hx⟩
  have hd : But [] w2 w3 := by
    obtain ⟨n, rfl⟩ := hx
    exact (But.refl _ _).drewN
  clear hx
  go_wp2_with fail
  refine (state24 _).mono ?_
  rintro e w4 ⟨rfl, rfl⟩
  have k0 : w3.cell? ⟨w.heap.size, 0, none⟩ = some (.string ⟨#[]⟩) := cell_of_row _ _ 0 _ _ _ (hd.heapAt H02.out (by simp))
  have k1 : w3.cell? ⟨w.heap.size + 1, 0, none⟩ = some (.int .i64 0) := cell_of_row _ _ 0 _ _ _ (hd.heapAt H12.out (by simp))
  have f0 : w3.frozen? ⟨w.heap.size, 0, none⟩ = false := frozen_of_row _ _ 0 _ _ (hd.heapAt H02.out (by simp))
  have f1 : w3.frozen? ⟨w.heap.size + 1, 0, none⟩ = false := frozen_of_row _ _ 0 _ _ (hd.heapAt H12.out (by simp))
  have HD := Lib.hid hd
  clear hd
  go_wp2
  refine leaves_cons (f := 34) (args := #[.pointer (some ⟨w.heap.size, 0, none⟩), .pointer (some ⟨w.heap.size + 1, 0, none⟩)]) (by simp) (by simp [go_sem]) ?_
  refine (catch34 _ _ _).mono ?_
  rintro e u' w'' ⟨rfl, rfl, rfl⟩
  have q0 : (w3.setCell ⟨w.heap.size, 0, none⟩ (.string s)).cell? ⟨w.heap.size, 0, none⟩ = some (.string s) := World.cell?_setCell_same _ _ _ k0
  have q1 : ((w3.setCell ⟨w.heap.size, 0, none⟩ (.string s)).setCell ⟨w.heap.size + 1, 0, none⟩ (.int .i64 0)).cell? ⟨w.heap.size + 1, 0, none⟩ = some (.int .i64 0) :=
    World.cell?_setCell_same _ _ _ ((World.cell?_setCell_other _ _ _ _ (by simp)).trans k1)
  simp [Leaves, settle, results, Try.results19, go_sem, q0, q1]
  have hw1 : But [] w w1 := b3.trans HBU1.out
  have z1 := hw1.size
  have c1 : But [] w1 w3 → Below w.heap.size w w3 := fun h => (hw1.trans h).toBelow
  have c2 : Below w.heap.size w w3 := (hw1.toBelow).trans ((HBE.out.mono (by omega)).trans (HD.out.below _ (by have := HBE.out.size; omega) (fun _ e => by cases e)))
  exact (c2.setCell (Nat.le_refl _) _).setCell (by simp) _
end Go.Proofs.Ytdlimgghcpbkcaa.raw
