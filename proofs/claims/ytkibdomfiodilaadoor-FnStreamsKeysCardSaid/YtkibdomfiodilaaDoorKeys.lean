/-
  Proved: the contracts of spec.Upper, spec.StreamsKeys, spec.SameTexts, of findStreamsKeys and impl.StreamsKeys.
  Conditions: at most 50 strings, each of at most 200 bytes below 128.
-/
import Derived.Test.YtkibdomfiodilaaDoorStr
namespace Go.Proofs.YtkibdomfiodilaaDoor.strs
open Go.RowKit Mem
set_option linter.unusedVariables false

def up (s : ByteArray) : ByteArray := ⟨(Lib.toUpperA s.data.toList).toArray⟩
def word : List UInt8 := [83, 84, 82, 69, 65, 77, 83]
def keysOf : List ByteArray → List ByteArray
  | [] => []
  | s :: r => if (up s).toList = word then r.take ((r.length + 1) / 2) else keysOf r

theorem BufAt.set {w : World} {A cap : Nat} {l : List UInt8} (h : BufAt w A l cap) (j : Nat) (hj : j < l.length) (b : UInt8) : BufAt (w.setCell ⟨A, j, none⟩ (.int .u8 (b.toNat : Int))) A (l.set j b) cap := by
  have hc : ∀ q, q ≠ j → (w.setCell ⟨A, j, none⟩ (.int .u8 (b.toNat : Int))).cell? ⟨A, q, none⟩ = w.cell? ⟨A, q, none⟩ := fun q hq => World.cell?_setCell_other _ _ _ _ (by simp)
  have hcj : (w.setCell ⟨A, j, none⟩ (.int .u8 (b.toNat : Int))).cell? ⟨A, j, none⟩ = some (.int .u8 (b.toNat : Int)) := World.cell?_setCell_same _ _ _ (h.bytes j _ (List.getElem?_eq_getElem hj))
  refine ⟨fun q x hx => ?_, fun q hq => ?_, fun q hq => by rw [World.frozen?_setCell]; exact h.free q hq, by rw [List.length_set]; exact h.le, by simpa [World.setCell] using h.lt, h.lim⟩
  · by_cases hqj : q = j
    · subst hqj
      rw [List.getElem?_set_self hj] at hx
      cases hx
      exact hcj
    · rw [List.getElem?_set_ne (Ne.symm hqj)] at hx
      rw [hc q hqj]
      exact h.bytes q x hx
  · by_cases hqj : q = j
    · subst hqj
      rw [hcj]
      rfl
    · rw [hc q hqj]
      exact h.room q hq

/-- The text, capital so far. -/
def upTo (l : List UInt8) (j : Nat) : List UInt8 := Lib.toUpperA (l.take j) ++ l.drop j
theorem upTo_length (l : List UInt8) (j : Nat) (hj : j ≤ l.length) : (upTo l j).length = l.length := by
  simp [upTo, Lib.toUpperA]
  omega
theorem upTo_at (l : List UInt8) (j : Nat) (hj : j < l.length) : (upTo l j)[j]? = some (l[j]'hj) := by
  unfold upTo
  rw [List.getElem?_append_right (by simp [Lib.toUpperA]; omega)]
  have : (Lib.toUpperA (l.take j)).length = j := by simp [Lib.toUpperA]; omega
  rw [this]
  simp [hj]
theorem upTo_step (l : List UInt8) (j : Nat) (hj : j < l.length) : (upTo l j).set j (Lib.upperB (l[j]'hj)) = upTo l (j + 1) := by
  have hl : (Lib.toUpperA (l.take j)).length = j := by simp [Lib.toUpperA]; omega
  unfold upTo
  rw [List.set_append_right _ _ (by omega), hl, Nat.sub_self, List.drop_eq_getElem_cons hj, List.set_cons_zero, List.take_succ_eq_append_getElem hj]
  simp only [Lib.toUpperA, List.map_append, List.map_cons, List.map_nil, List.append_assoc, List.singleton_append]
theorem upTo_same (l : List UInt8) (j : Nat) (hj : j < l.length) (h : Lib.upperB (l[j]'hj) = l[j]'hj) : upTo l (j + 1) = upTo l j := by
  rw [← upTo_step l j hj, h]
  apply List.ext_getElem?
  intro q
  by_cases hq : q = j
  · subst hq
    rw [List.getElem?_set_self (by rw [upTo_length l q (by omega)]; exact hj), upTo_at l q hj]
  · rw [List.getElem?_set_ne (Ne.symm hq)]

theorem upper31 (s : ByteArray) (hs : s.size ≤ 1000) (w : World) :
    Calls Tryd.prog 31 #[.string s] w fun e w' => e = .returned (.string (up s)) ∧ Below w.heap.size w w' := by
  have hconv : ∀ w : World, (convert 9 45 (.string s)).run Tryd.prog w = .ok (.slice (some ⟨w.heap.size, 0, none⟩) s.size (grownCap w s.size 0 5)) (Lib.bytesWorld w 5 s) := fun w =>
    Lib.run_convert_string_bytes w 9 45 5 s Tryd.underlying9 Tryd.underlying45 Tryd.underlying5
  have hb := BufAt.of_bytesWorld w s (by omega)
  have hbu := (bytes_but [] w 5 s).toBelow
  have HB := Lib.hid hb
  have HBU := Lib.hid hbu
  clear hb hbu
  have hsl : s.data.toList.length = s.size := by simp
  go_enter Tryd.func31, Tryd.ntmps31
  go_wp2_with fail
  generalize grownCap w s.size 0 5 = cap at *
  go_loopw [10] (fun i wr => ∃ j : Nat, j ≤ s.size ∧ i = .int .i64 j ∧ BufAt wr w.heap.size (upTo s.data.toList j) cap ∧ Below w.heap.size w wr) (fun i _ => s.size - (intOf i).toNat)
  case atStart => exact ⟨0, Nat.zero_le _, rfl, HB.out, HBU.out⟩
  case round =>
    obtain ⟨j, hj, rfl, hbj, hbe⟩ := hrel
    have HBE := Lib.hid hbe
    clear hbe
    by_cases hlt : j < s.size
    · have hpl : j < s.data.toList.length := by omega
      have hc := hbj.bytes j _ (upTo_at s.data.toList j hpl)
      have hf := hbj.free j (by have := hbj.le; rw [upTo_length _ _ (by omega)] at this; omega)
      have hset := BufAt.set hbj j (by rw [upTo_length _ _ (by omega)]; exact hpl) (Lib.upperB (s.data.toList[j]'hpl))
      rw [upTo_step s.data.toList j hpl] at hset
      have hsame := upTo_same s.data.toList j hpl
      generalize s.data.toList[j]'hpl = x at *
      have hxl := x.toNat_lt
      have hjl : (j : Int) < (s.size : Int) := by omega
      have HJ := Lib.hid hbj
      have HSET := Lib.hid hset
      clear hbj hset
      by_cases hu : Lib.isLowerB x = true
      · have hui := Lib.upperB_int x hu
        have hur : 97 ≤ x.toNat ∧ x.toNat ≤ 122 := by
          simp only [Lib.isLowerB, Bool.and_eq_true, decide_eq_true_eq, UInt8.le_iff_toNat_le] at hu
          exact hu
        rw [hui] at HSET
        have g1 : (97 : Int) ≤ (x.toNat : Int) := by omega
        have g2 : (x.toNat : Int) ≤ 122 := by omega
        have e1 : IntKind.u8.wrap ((x.toNat : Int) - 97) = (x.toNat : Int) - 97 := by rw [IntKind.wrap_u8]; omega
        have e2 : IntKind.u8.wrap ((x.toNat : Int) - 97 + 65) = (x.toNat : Int) - 32 := by rw [IntKind.wrap_u8]; omega
        clear hsame hui hu
        go_wp2
        go_roundw
        case rel => exact ⟨j + 1, by omega, by go_num, HSET.out, HBE.out.setCell (Nat.le_refl _) _⟩
        case measure => simp [intOf]; omega
      · have hu0 : Lib.isLowerB x = false := by simpa using hu
        have hs2 := hsame (Lib.upperB_of_not x hu0)
        have hg : (decide ((97 : Int) ≤ (x.toNat : Int)) && decide ((x.toNat : Int) ≤ 122)) = false := by
          simp only [Lib.isLowerB, Bool.and_eq_false_iff, decide_eq_false_iff_not, UInt8.le_iff_toNat_le] at hu0
          simp only [Bool.and_eq_false_iff, decide_eq_false_iff_not]
          have h97 : (97 : UInt8).toNat = 97 := rfl
          have h122 : (122 : UInt8).toNat = 122 := rfl
          omega
        have hg2 : (97 : Int) ≤ (x.toNat : Int) → ¬ (x.toNat : Int) ≤ 122 := by
          intro h1 h2
          simp [h1, h2] at hg
        rw [← hs2] at HJ
        clear hsame hs2 hu hu0 HSET
        by_cases g1 : (97 : Int) ≤ (x.toNat : Int)
        · have g2 := hg2 g1
          clear hg hg2
          go_wp2
          go_roundw
          case rel => exact ⟨j + 1, by omega, by go_num, HJ.out, HBE.out⟩
          case measure => simp [intOf]; omega
        · clear hg hg2
          go_wp2
          go_roundw
          case rel => exact ⟨j + 1, by omega, by go_num, HJ.out, HBE.out⟩
          case measure => simp [intOf]; omega
    · have hjs : j = s.data.toList.length := by omega
      have hup : upTo s.data.toList j = Lib.toUpperA s.data.toList := by
        unfold upTo
        rw [hjs, List.take_length, List.drop_length, List.append_nil]
      rw [hup] at hbj
      have hst := hbj.str
      have hll : (Lib.toUpperA s.data.toList).length = s.size := by simp [Lib.toUpperA]
      rw [hll] at hst
      have hjl : ¬ (j : Int) < (s.size : Int) := by omega
      clear hbj hup
      go_wp2
      go_ret
      exact ⟨rfl, HBE.out⟩

/-- The keys begin behind the word at place j. -/
theorem keysOf_at (ss : List ByteArray) : ∀ (j : Nat), (∀ (q : Nat) (s : ByteArray), q < j → ss[q]? = some s → (up s).toList ≠ word) → ∀ (hj : j < ss.length), (up (ss[j]'hj)).toList = word →
    keysOf ss = (ss.drop (j + 1)).take ((ss.length - (j + 1) + 1) / 2) := by
  induction ss with
  | nil => intro j _ hj; simp at hj
  | cons s r ih =>
    intro j hne hj he
    cases j with
    | zero =>
      simp only [List.getElem_cons_zero] at he
      simp [keysOf, he]
    | succ j =>
      have h0 := hne 0 s (by omega) rfl
      simp only [List.getElem_cons_succ] at he
      have hr := ih j (fun q t hq ht => hne (q + 1) t (by omega) (by simpa using ht)) (by simpa using hj) he
      simp only [keysOf, if_neg h0, hr, List.drop_succ_cons, List.length_cons]
      congr 2
      omega
theorem keysOf_none (ss : List ByteArray) (h : ∀ (q : Nat) (s : ByteArray), ss[q]? = some s → (up s).toList ≠ word) : keysOf ss = [] := by
  induction ss with
  | nil => rfl
  | cons s r ih =>
    simp only [keysOf, if_neg (h 0 s rfl)]
    exact ih (fun q t ht => h (q + 1) t (by simpa using ht))

/-- A part of a slice's elements. -/
theorem Str.part {w : World} {A off : Nat} {ss : List ByteArray} (h : ∀ (j : Nat) (s : ByteArray), ss[j]? = some s → w.cell? ⟨A, off + j, none⟩ = some (.string s)) (i m : Nat) : Str w (some ⟨A, off + i, none⟩) ((ss.drop i).take m) :=
  ⟨.inr ⟨A, off + i, rfl, fun j s hs => by
    rw [Nat.add_assoc]
    apply h
    by_cases hjm : j < m
    · rw [List.getElem?_take_of_lt hjm, List.getElem?_drop] at hs
      exact hs
    · rw [List.getElem?_eq_none (by simp; omega)] at hs
      cases hs⟩⟩
end Go.Proofs.YtkibdomfiodilaaDoor.strs
