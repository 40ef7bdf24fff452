/-
  Proved: the contracts of io.ReadAtLeast, io.ReadFull, expand and ReadNAppend.
  Conditions: a buffered reader that has at least so many bytes left.
-/
import Derived.Test.YtbffilfacmdhdaaDoorRe1
namespace Go.Proofs.YtbffilfacmdhdaaDoor.dec
open Go.RowKit Mem rw
set_option linter.unusedVariables false
set_option linter.unusedSimpArgs false

theorem method_bread (a : Addr) (w : World) : (method 243 82 (.pointer (some a)) "Read").run Tryd.prog w = .ok (57, .pointer (some a)) w := by kernel_rfl
theorem nil_bread (a : Addr) (w : World) : (nilAhead 243 82 (.pointer (some a)) "Read").run Tryd.prog w = .ok (some false) w := by kernel_rfl
/-- While bytes are read into a row. -/
structure RA (G : Cfg) (X B P : Nat) (w : World) (rest d : List UInt8) (cap : Nat) (wr : World) (j : Nat) (l : List UInt8) (r : Nat) (left : List UInt8) (at_ : Nat) (lb ls : Int) : Prop where
  bx : BX G X B wr l r left at_ lb ls
  rs : l.drop r ++ left = rest.drop j
  dst : BufAt wr P (d ++ rest.take j) cap
  but : But [X, B, G.R, P] w wr
def RaOut (G : Cfg) (X B P : Nat) (w : World) (rest d : List UInt8) (cap k : Nat) (e : Ending) (w' : World) : Prop :=
  e = .returned (.tuple #[.int .i64 k, .nilIface]) ∧ Hid (∃ l r left at_ lb ls, RA G X B P w rest d cap w' k l r left at_ lb ls)
set_option maxRecDepth 100000 in
set_option maxHeartbeats 2000000 in
theorem least29 (G : Cfg) (hG : Base G) (X B P : Nat) (w : World) (l : List UInt8) (r : Nat) (left : List UInt8) (at_ : Nat) (lb ls : Int) (h : BX G X B w l r left at_ lb ls)
    (d : List UInt8) (cap k c : Nat) (hd : BufAt w P d cap) (hk0 : 0 < k) (hkr : k ≤ (l.drop r ++ left).length) (hk : d.length + k ≤ cap) (hkc : k ≤ c) (hc : c ≤ 9223372036854775807) (hk4 : k < 4096) (hPX : P ≠ X) (hPB : P ≠ B) (hPR : P ≠ G.R) (hPlo : G.w0.heap.size ≤ P) :
    Calls Tryd.prog 29 #[.iface 82 (.pointer (some ⟨X, 0, none⟩)), .slice (some ⟨P, d.length, none⟩) k c, .int .i64 k] w (RaOut G X B P w (l.drop r ++ left) d cap k) := by
  obtain ⟨rest, hrest⟩ : ∃ rest, l.drop r ++ left = rest := ⟨_, rfl⟩
  obtain ⟨o, ho⟩ : ∃ o, d.length = o := ⟨_, rfl⟩
  have hmr := method_bread ⟨X, 0, none⟩
  have hna := nil_bread ⟨X, 0, none⟩
  have hmf : ∀ (fn : Fn) (first cap : Array Value) (w : World), (Instr.makeFunc fn first cap).run Tryd.prog w = .ok (.func fn first cap) w := fun _ _ _ _ => rfl
  rw [hrest] at hkr ⊢
  rw [ho] at hk ⊢
  have H0 : Hid (∃ l r left at_ lb ls, RA G X B P w rest d cap w 0 l r left at_ lb ls ∧ (l.drop r ++ left).length + rank G left.length at_ = rest.length + rank G left.length at_) := Lib.hid ⟨l, r, left, at_, lb, ls, ⟨h, by rw [hrest]; rfl, by simpa using hd, But.refl _ w⟩, by rw [hrest]⟩
  obtain ⟨M, hM⟩ : ∃ M, rest.length + rank G left.length at_ = M := ⟨_, rfl⟩
  have HI : Hid (∃ l r left at_ lb ls, RA G X B P w rest d cap w 0 l r left at_ lb ls ∧ (l.drop r ++ left).length + rank G left.length at_ = M) := Lib.hid ⟨l, r, left, at_, lb, ls, ⟨h, by rw [hrest]; rfl, by simpa using hd, But.refl _ w⟩, by rw [hrest, hM]⟩
  have HO := Lib.hid (And.intro ho hG)
  clear h hd hrest ho H0 hM hG
  go_enter Tryd.func29, Tryd.ntmps29
  go_wp2_with fail
  go_loopg [6, 7, 8] M (fun g s6 s7 s8 wr => ∃ j : Nat, j ≤ k ∧ s6 = .int .i64 j ∧ s7 = .nilIface ∧ Hid (∃ l r left at_ lb ls, RA G X B P w rest d cap wr j l r left at_ lb ls ∧ (l.drop r ++ left).length + rank G left.length at_ = g))
  case atStart => exact ⟨0, Nat.zero_le _, rfl, rfl, HI⟩
  case round =>
    obtain ⟨j, hj, rfl, rfl, hR⟩ := hrel
    by_cases hjk : j = k
    · subst hjk
      have hji : ¬ (j : Int) < (j : Int) := by omega
      have HF : Hid (∃ l r left at_ lb ls, RA G X B P w rest d cap wr j l r left at_ lb ls) := Lib.hid (by
        obtain ⟨l, r, left, at_, lb, ls, h1, h2⟩ := hR.out
        exact ⟨l, r, left, at_, lb, ls, h1⟩)
      clear hR HI
      go_wp2_with fail
      go_ret2
      exact ⟨rfl, HF⟩
    · have hji : (j : Int) < (k : Int) := by omega
      obtain ⟨l, r, left, at_, lb, ls, h1, h2⟩ := hR.out
      have hq := h1.bx.quiet (But.refl [] wr).drew
      have hne : l.drop r ++ left ≠ [] := by
        rw [h1.rs]
        intro e
        have := congrArg List.length e
        rw [List.length_drop] at this
        simp at this
        omega
      have hdl : (d ++ rest.take j).length = o + j := by rw [List.length_append, List.length_take, HO.out.1]; omega
      have hcall := read57 G HO.out.2 X B P wr.drew l r left at_ lb ls hq hne (d ++ rest.take j) cap (k - j) (c - j) (h1.dst.but (But.refl [] wr).drew (by simp)) (by omega) (by rw [hdl]; omega) (by omega) hPX hPB hPR hPlo
      rw [hdl] at hcall
      obtain ⟨kj, hkj⟩ : ∃ kj, k - j = kj := ⟨_, rfl⟩
      have hcj : ¬ c = j := by omega
      have hjc : (j : Int) ≤ (c : Int) := by omega
      have HC := Lib.hid hcall
      have H1 := Lib.hid (And.intro h1 h2)
      rw [hkj] at HC
      clear hcall h1 h2 hq hne hdl hR HI
      go_wp2_with fail
      go_region_held3 (fun _ => True) (exact trivial) (first | (go_at_call 57; (with_reducible refine HC.out.mono ?_); rintro e w1 ⟨q, rfl, hq⟩))
      all_goals
        have HQ := Lib.hid hq.out
        clear hq HC
        obtain ⟨l', r', left', at', lb', ls', k1⟩ := HQ.out
        obtain ⟨h1, h2⟩ := H1.out
        have hqk := k1.jk
        have hw : IntKind.i64.wrap ((j : Int) + (q : Int)) = ((j + q : Nat) : Int) := by rw [IntKind.wrap_i64]; omega
        have HN : Hid (∃ l r left at_ lb ls, RA G X B P w rest d cap w1 (j + q) l r left at_ lb ls ∧ (l.drop r ++ left).length + rank G left.length at_ = (l'.drop r' ++ left').length + rank G left'.length at') := Lib.hid ⟨l', r', left', at', lb', ls', ⟨k1.bx, by rw [k1.rest, h1.rs, List.drop_drop], by
          have := k1.dst
          rw [h1.rs, List.append_assoc, ← List.take_add] at this
          exact this, h1.but.trans ((((But.refl [] wr).drew).mono (by simp)).trans k1.but)⟩, rfl⟩
        have HLS := Lib.hid (show (l'.drop r' ++ left').length + rank G left'.length at' < gk by have := k1.less; omega)
        clear k1 h1 h2 H1 HQ
        go_wp2_with fail
        go_roundg ((l'.drop r' ++ left').length + rank G left'.length at')
        case measure => exact HLS.out
        case rel => exact ⟨j + q, by omega, rfl, rfl, HN⟩
end Go.Proofs.YtbffilfacmdhdaaDoor.dec
