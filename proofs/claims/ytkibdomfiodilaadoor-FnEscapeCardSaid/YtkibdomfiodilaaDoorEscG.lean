/-
  Proved: the contracts of appendEscaped, of DoorEscape and DoorEscapedLen, and of impl.Escape and impl.EscapedLen.
  Conditions: which from 0 to 4, texts of at most 5000 bytes.
-/
import Derived.Test.YtkibdomfiodilaaDoorEscF
import Derived.Test.YtkibdomfiodilaaDoorBuf
namespace Go.Proofs.YtkibdomfiodilaaDoor.esc
open Go.RowKit Mem
set_option linter.unusedVariables false

theorem esc_ge (k : Int) (l : List UInt8) : l.length ≤ (esc k l).length := by rw [esc_len]; omega
theorem esc_same (k : Int) (l : List UInt8) (h : (esc k l).length = l.length) : esc k l = l := by
  induction l with
  | nil => rfl
  | cons c r ih =>
    have h1 := esc_ge k r
    rw [esc_cons, List.length_append, List.length_cons] at h
    rw [esc_cons]
    unfold escB at *
    split
    · rename_i h0
      rw [if_pos h0] at h
      rw [ih (by simp at h; omega)]
      rfl
    · rename_i h0
      rw [if_neg h0] at h
      simp at h
      omega

/-- What appendEscaped leaves. -/
def Appended (w : World) (A : Nat) (l : List UInt8) (e : Ending) (w' : World) : Prop :=
  ∃ g cap, e = .returned (.slice (some ⟨g, 0, none⟩) l.length cap) ∧ BufAt w' g l cap ∧ But [A] w w'

theorem esc43_same (E : Nat) (k : Int) (s : ByteArray) (hs : s.size ≤ 5000) (A cap : Nat) (d : List UInt8) (hd : d.length ≤ 5000) (w : World) (h : EscAt w E k) (hb : BufAt w A d cap) (he : (esc k s.data.toList).length = s.size) :
    Calls Tryd.prog 43 #[.pointer (some ⟨E, 0, none⟩), .slice (some ⟨A, 0, none⟩) d.length cap, .string s] w (Appended w A (d ++ esc k s.data.toList)) := by
  have hsl : s.data.toList.length = s.size := by simp
  have hsame := esc_same k s.data.toList (by rw [he, hsl])
  rw [hsame] at he ⊢
  have hlen := len44 E k s hs w h
  rw [hsame, he] at hlen
  obtain ⟨g, cap', w1, hr, hb1, hbut⟩ := hb.append_str s (by omega) 45
  have HL := Lib.hid hlen
  have HB := Lib.hid hb1
  have HBU := Lib.hid hbut
  generalize hq : d ++ s.data.toList = l at *
  clear hlen hb1 hbut hsame hq h hb he hsl
  go_enter Tryd.func43, Tryd.ntmps43
  go_wp2_with fail
  refine HL.out.mono ?_
  rintro e w' ⟨rfl, rfl⟩
  have HR := Lib.hid hr
  clear hr
  go_wp2_with (at_builtin; refine app_step rfl _ _ _ _ rfl _ _ _ rfl rfl HR.out ?_)
  go_ret
  exact ⟨g, cap', rfl, HB.out, HBU.out⟩

theorem esc43_room (E : Nat) (k : Int) (s : ByteArray) (hs : s.size ≤ 5000) (A cap : Nat) (d : List UInt8) (hd : d.length ≤ 5000) (w : World) (h : EscAt w E k) (hb : BufAt w A d cap) (hAE : A ≠ E)
    (he : (esc k s.data.toList).length ≠ s.size) (hroom : d.length + (esc k s.data.toList).length ≤ cap) :
    Calls Tryd.prog 43 #[.pointer (some ⟨E, 0, none⟩), .slice (some ⟨A, 0, none⟩) d.length cap, .string s] w (Appended w A (d ++ esc k s.data.toList)) := by
  have hlen := len44 E k s hs w h
  have hge := esc_ge k s.data.toList
  have hle := esc_le k s.data.toList
  have hsl : s.data.toList.length = s.size := by simp
  have hlim := hb.lim
  have hw := write57 E k s hs A d.length (esc k s.data.toList).length (cap - d.length) w h hAE rfl (fun j hj => hb.room _ (by omega)) (fun j hj => hb.free _ (by omega))
  have hp := hb.put (esc k s.data.toList) hroom
  rw [hsl] at hge hle
  generalize hl : esc k s.data.toList = l at *
  have hM : (d ++ l).length = d.length + l.length := List.length_append
  generalize d.length = n at *
  generalize l.length = M at *
  have HL := Lib.hid hlen
  have HW := Lib.hid hw
  have HP := Lib.hid hp
  have HM := Lib.hid hM
  clear hlen hw hp h hb hsl hl hM
  have hq : ((M : Int) == (s.size : Int)) = false := beq_eq_false_iff_ne.2 (by omega)
  have hc : ¬ ((cap : Int) - (n : Int) < (M : Int)) := by omega
  have hn1 : ¬ cap = n := by omega
  go_enter Tryd.func43, Tryd.ntmps43
  go_wp2_with fail
  refine HL.out.mono ?_
  rintro e w' ⟨rfl, rfl⟩
  go_wp2_with fail
  refine HW.out.mono ?_
  rintro e w' ⟨rfl, rfl⟩
  have hlen2 := HM.out
  go_wp2
  go_ret
  exact ⟨A, cap, by rw [hlen2]; rfl, HP.out.1, HP.out.2⟩

theorem esc43_grow (E : Nat) (k : Int) (s : ByteArray) (hs : s.size ≤ 5000) (A cap : Nat) (d : List UInt8) (hd : d.length ≤ 5000) (w : World) (h : EscAt w E k) (hb : BufAt w A d cap)
    (he : (esc k s.data.toList).length ≠ s.size) (hroom : ¬ d.length + (esc k s.data.toList).length ≤ cap) :
    Calls Tryd.prog 43 #[.pointer (some ⟨E, 0, none⟩), .slice (some ⟨A, 0, none⟩) d.length cap, .string s] w (Appended w A (d ++ esc k s.data.toList)) := by
  have hlen := len44 E k s hs w h
  have hge := esc_ge k s.data.toList
  have hle := esc_le k s.data.toList
  have hsl : s.data.toList.length = s.size := by simp
  have hlim := hb.lim
  have hcl := hb.le
  rw [hsl] at hge hle
  obtain ⟨hcp, hb2, hbu2⟩ := made_copied hb (d.length + (esc k s.data.toList).length) (by omega) (by omega) 3
  have hmk := make_row w d.length (d.length + (esc k s.data.toList).length) (by omega) (by omega)
  generalize hw2 : (w.alloc (.cells (madeCells #[.int .u8 0] (d.length + (esc k s.data.toList).length)) 5)).setCells w.heap.size 0 (Lib.byteCells d) = w2 at *
  generalize hw1 : w.alloc (.cells (madeCells #[.int .u8 0] (d.length + (esc k s.data.toList).length)) 5) = w1 at *
  have hE : E < w.heap.size := (Array.getElem?_eq_some_iff.1 h).1
  have h2 : EscAt w2 E k := hbu2.heapAt h (by simp)
  have hw := write57 E k s hs w.heap.size d.length (esc k s.data.toList).length (d.length + (esc k s.data.toList).length - d.length) w2 h2 (by omega) rfl (fun j hj => hb2.room _ (by omega)) (fun j hj => hb2.free _ (by omega))
  obtain ⟨hp, hpu⟩ := hb2.put (esc k s.data.toList) (by omega)
  have hbut : But [A] w (w2.setCells w.heap.size d.length (Lib.byteCells (esc k s.data.toList))) := hbu2.join hpu (fun x hx => by cases hx) (fun x hx hlt => by simp at hx; omega)
  generalize hl : esc k s.data.toList = l at *
  have hM : (d ++ l).length = d.length + l.length := List.length_append
  generalize d.length = n at *
  generalize l.length = M at *
  rw [show n + M - n = M from by omega] at hw
  rw [Int.natCast_add] at hmk
  have HL := Lib.hid hlen
  have HW := Lib.hid hw
  have HP := Lib.hid hp
  have HM := Lib.hid hM
  have HBU := Lib.hid hbut
  clear hlen hw hp hpu h hb hb2 hbu2 hsl hl hM hbut hw1 hw2 h2
  have hq : ((M : Int) == (s.size : Int)) = false := beq_eq_false_iff_ne.2 (by omega)
  have hc : ((cap : Int) - (n : Int) < (M : Int)) := by omega
  have hn1 : ¬ n + M = n := by omega
  go_enter Tryd.func43, Tryd.ntmps43
  go_wp2_with fail
  refine HL.out.mono ?_
  rintro e w' ⟨rfl, rfl⟩
  go_wp2_with fail
  refine HW.out.mono ?_
  rintro e w' ⟨rfl, rfl⟩
  have hlen2 := HM.out
  go_wp2
  go_ret
  exact ⟨w.heap.size, n + M, by rw [hlen2]; rfl, HP.out, HBU.out⟩

theorem esc43 (E : Nat) (k : Int) (s : ByteArray) (hs : s.size ≤ 5000) (A cap : Nat) (d : List UInt8) (hd : d.length ≤ 5000) (w : World) (h : EscAt w E k) (hb : BufAt w A d cap) (hAE : A ≠ E) :
    Calls Tryd.prog 43 #[.pointer (some ⟨E, 0, none⟩), .slice (some ⟨A, 0, none⟩) d.length cap, .string s] w (Appended w A (d ++ esc k s.data.toList)) := by
  by_cases he : (esc k s.data.toList).length = s.size
  · exact esc43_same E k s hs A cap d hd w h hb he
  by_cases hr : d.length + (esc k s.data.toList).length ≤ cap
  · exact esc43_room E k s hs A cap d hd w h hb hAE he hr
  · exact esc43_grow E k s hs A cap d hd w h hb he hr

theorem door26 (k : Int) (h0 : 0 ≤ k) (h4 : k ≤ 4) (s : ByteArray) (hs : s.size ≤ 5000) (A cap : Nat) (d : List UInt8) (hd : d.length ≤ 5000) (w : World) (hb : BufAt w A d cap) :
    Calls Tryd.prog 26 #[.int .i64 k, .slice (some ⟨A, 0, none⟩) d.length cap, .string s] w (Appended w A (d ++ esc k s.data.toList)) := by
  have HB := Lib.hid hb
  clear hb
  go_enter Tryd.func26, Tryd.ntmps26
  go_wp2_with fail
  refine (door_esc k h0 h4 w).mono ?_
  rintro e w1 ⟨rfl, he, hbe⟩
  have HE := Lib.hid he
  clear he
  go_wp2_with fail
  refine (esc43 w.heap.size k s hs A cap d hd w1 HE.out (HB.out.but (But.ofBelow (S := []) hbe) (by simp)) (by have := HB.out.lt; omega)).mono ?_
  rintro e w2 ⟨g, cap', rfl, hb2, hu2⟩
  have HB2 := Lib.hid hb2
  clear hb2
  go_wp2
  go_ret
  exact ⟨g, cap', by rw [List.length_append]; rfl, HB2.out, (But.ofBelow hbe).trans hu2⟩

theorem door27 (k : Int) (h0 : 0 ≤ k) (h4 : k ≤ 4) (s : ByteArray) (hs : s.size ≤ 5000) (w : World) :
    Calls Tryd.prog 27 #[.int .i64 k, .string s] w fun e w' => e = .returned (.int .i64 ((esc k s.data.toList).length : Int)) ∧ Below w.heap.size w w' := by
  go_enter Tryd.func27, Tryd.ntmps27
  go_wp2_with fail
  refine (door_esc k h0 h4 w).mono ?_
  rintro e w1 ⟨rfl, he, hbe⟩
  have HE := Lib.hid he
  clear he
  go_wp2_with fail
  refine (len44 _ k s hs w1 HE.out).mono ?_
  rintro e w2 ⟨rfl, rfl⟩
  go_wp2
  go_ret
  exact ⟨rfl, hbe⟩

/-- impl.Escape. -/
theorem escape14 (k : Int) (h0 : 0 ≤ k) (h4 : k ≤ 4) (d s : ByteArray) (hd : d.size ≤ 5000) (hs : s.size ≤ 5000) (w : World) :
    Calls Tryd.prog 14 #[.int .i64 k, .string d, .string s] w fun e w' => e = .returned (.string ⟨(d.data.toList ++ esc k s.data.toList).toArray⟩) ∧ Below w.heap.size w w' := by
  have hconv : ∀ w : World, (convert 9 45 (.string d)).run Tryd.prog w = .ok (.slice (some ⟨w.heap.size, 0, none⟩) d.size (grownCap w d.size 0 5)) (Lib.bytesWorld w 5 d) := fun w =>
    Lib.run_convert_string_bytes w 9 45 5 d Tryd.underlying9 Tryd.underlying45 Tryd.underlying5
  have hb := BufAt.of_bytesWorld w d (by omega)
  have hbu := bytes_but [] w 5 d
  have hdl : d.data.toList.length = d.size := by simp
  have hdo := door26 k h0 h4 s hs w.heap.size (grownCap w d.size 0 5) d.data.toList (by omega) _ hb
  rw [hdl] at hdo
  have HD := Lib.hid hdo
  have HB := Lib.hid hb
  have HBU := Lib.hid hbu
  clear hdo hb hbu
  generalize d.data.toList ++ esc k s.data.toList = l at *
  go_enter Tryd.func14, Tryd.ntmps14
  go_wp2_with fail
  refine HD.out.mono ?_
  rintro e w2 ⟨g, cap', rfl, hb2, hu2⟩
  have hstr := hb2.str
  have HB2 := Lib.hid hb2
  clear hb2
  go_wp2
  go_ret
  exact ⟨rfl, (HBU.out.join hu2 (U := []) (fun x hx => by cases hx) (fun x hx hlt => by simp at hx; omega)).toBelow⟩
/-- impl.EscapedLen. -/
theorem escLen15 (k : Int) (h0 : 0 ≤ k) (h4 : k ≤ 4) (s : ByteArray) (hs : s.size ≤ 5000) (w : World) :
    Calls Tryd.prog 15 #[.int .i64 k, .string s] w fun e w' => e = .returned (.int .i64 ((esc k s.data.toList).length : Int)) ∧ Below w.heap.size w w' := by
  go_enter Tryd.func15, Tryd.ntmps15
  go_wp2_with fail
  refine (door27 k h0 h4 s hs w).mono ?_
  rintro e w1 ⟨rfl, hbe⟩
  go_wp2
  go_ret
  exact ⟨rfl, hbe⟩
end Go.Proofs.YtkibdomfiodilaaDoor.esc
