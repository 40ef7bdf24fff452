/-
  Proved: for every string, int and slice of ints, laws.FnLenRead returns true (a reader that is told to have n bytes tells that at first, and behind each read less by the bytes that came).
  Conditions: none beyond the given statement's own.
  The frame of the row's step was written by the kit's proof-skeleton.mjs; the walks are this session's.
-/
import Derived.Test.YtciicifdehicgaaLenX
import Derived.HandedShaped
import Derived.Shelf.Vars
import Derived.WalkKit
import Derived.ProofKit
import Derived.OpenShut
import Derived.ShutString
import Derived.ChangeOld
import Derived.Below
namespace Go.Proofs.Ytciicifdehicgaa.fnLenRead
open Go.ChangeShapes Go.WideShapes Go.ChangeAt Go.RowKit
open Go.ChangeMaps (open_string shut_string)
set_option linter.unusedVariables false

theorem own : ownKnob Try.prog.godebug = none := by kernel_rfl
theorem laidOut : laidOutB Try.prog = true := by kernel_rfl

/-- WHAT THE WALK IS TOLD OF A SLICE OF INTEGERS THAT CAME IN: it is nil; or it leads to a row of 'cap' cells, the numbers 'zs' (the first 'len' are its elements, the rest its spare room), each fitting its kind. -/
def IsRow (k : IntKind) (w : World) (a : Option Addr) (len cap : Nat) (zs : List Int) : Prop :=
  (a = none ∧ len = 0 ∧ cap = 0 ∧ zs = []) ∨
  ∃ x, a = some x ∧ len ≤ cap ∧ cap ≤ maxLen ∧ zs.length = cap ∧ (∀ i, i < zs.length → w.cell? (x.add i) = some (.int k (zs.getD i 0))) ∧ ∀ n ∈ zs, (Lit.int k n).wf = true


theorem list_at (s : ByteArray) (n : Int) (zs : List Int) : ∀ k, k ≤ zs.length → ∀ j, j ≤ k → (lenr.stateL s n (zs.take k)).2.2[j]? = some (lenr.stateL s n (zs.take j)).2.1 := by
  intro k
  induction k with
  | zero => intro _ j hj; obtain rfl : j = 0 := by omega
            simp [lenr.stateL]
  | succ k ih =>
    intro hk j hj
    have h3 := (lenr.stateL_inv s n zs k (by omega)).2.2
    rw [lenr.stateL_snoc s n zs k (by omega)]
    by_cases hjk : j ≤ k
    · have := ih (by omega) j hjk
      simp only [lenr.stepL]
      rw [List.getElem?_append_left (by omega)]
      exact this
    · obtain rfl : j = k + 1 := by omega
      simp only [lenr.stepL]
      rw [List.getElem?_append_right (by omega), h3, lenr.stateL_snoc s n zs k (by omega)]
      simp [lenr.stepL]

theorem asked_yes (s : ByteArray) (a : Option Addr) (len cap : Nat) (w : World) (h1 : s.size ≤ 2000) (h2 : len ≤ 50) :
    Calls Try.prog 12 #[.string s, .slice a len cap] w fun e w' => e = .returned (.bool true) ∧ w = w' := by
  have g1 : decide ((s.size : Int) ≤ 2000) = true := by simp; omega
  have g2 : decide ((len : Int) ≤ 50) = true := by simp; omega
  go_enter Try.func12, Try.ntmps12
  go_wp2
  go_ret
  exact ⟨rfl, rfl⟩
theorem asked_no (s : ByteArray) (a : Option Addr) (len cap : Nat) (w : World) (h : ¬ (s.size ≤ 2000 ∧ len ≤ 50)) (hs : s.size ≤ 2147483647) (hl : len ≤ 2147483647) :
    Calls Try.prog 12 #[.string s, .slice a len cap] w fun e w' => e = .returned (.bool false) ∧ w = w' := by
  by_cases h1 : s.size ≤ 2000
  · have g1 : decide ((s.size : Int) ≤ 2000) = true := by simp; omega
    have g2 : decide ((len : Int) ≤ 50) = false := by simp; omega
    clear h h1
    go_enter Try.func12, Try.ntmps12
    go_wp2
    go_ret
    exact ⟨rfl, rfl⟩
  · have g1 : decide ((s.size : Int) ≤ 2000) = false := by simp; omega
    clear h h1
    go_enter Try.func12, Try.ntmps12
    go_wp2
    go_ret
    exact ⟨rfl, rfl⟩

/-- The slice that came in, as a list of its elements. -/
theorem row_list {w : World} {a : Option Addr} {len cap : Nat} {z : List Int} (h : IsRow .i64 w a len cap z) :
    ∃ (zs : List Int) (A off : Nat), zs.length = len ∧ (zs.length = 0 ∨ a = some ⟨A, off, none⟩) ∧ (∀ j, j < zs.length → w.cell? ⟨A, off + j, none⟩ = some (.int .i64 (zs.getD j 0))) ∧ ∀ x ∈ zs, -9223372036854775808 ≤ x := by
  rcases h with ⟨rfl, rfl, rfl, rfl⟩ | ⟨x, rfl, hl, _, hz, hc, hw⟩
  · exact ⟨[], 0, 0, rfl, Or.inl rfl, fun j hj => by simp at hj, fun x hx => by simp at hx⟩
  · obtain ⟨b, off, spot⟩ := x
    by_cases h0 : len = 0
    · subst h0
      exact ⟨[], 0, 0, rfl, Or.inl rfl, fun j hj => by simp at hj, fun x hx => by simp at hx⟩
    · have hs : spot = none := by
        have := hc 0 (by omega)
        simpa [Addr.add] using World.cell?_spot this
      subst hs
      have hlen : (z.take len).length = len := by simp; omega
      refine ⟨z.take len, b, off, hlen, Or.inr rfl, fun j hj => ?_, fun y hy => ?_⟩
      · have hj' : j < len := by omega
        have := hc j (by omega)
        have e : (⟨b, off, none⟩ : Addr).add j = ⟨b, off + j, none⟩ := by unfold Addr.add; split <;> simp_all
        rw [← e, this]
        simp [List.getD, hj']
      · have := hw y (List.mem_of_mem_take hy)
        have e : IntKind.i64.min = -9223372036854775808 := by decide
        simp [Lit.wf, e] at this
        omega

set_option maxHeartbeats 4000000 in
theorem good (s : ByteArray) (n : Int) (a : Option Addr) (A off cap : Nat) (zs : List Int) (w : World) (ev : Value) (hg : w.cell? ⟨1, 0, none⟩ = some ev)
    (hs : s.size ≤ 2000) (hn1 : -5000 ≤ n) (hn2 : n ≤ 5000) (hlen : zs.length ≤ 50) (hz2 : ∀ z ∈ zs, -9223372036854775808 ≤ z)
    (ha : zs.length = 0 ∨ a = some ⟨A, off, none⟩) (hA : ∀ j, j < zs.length → w.cell? ⟨A, off + j, none⟩ = some (.int .i64 (zs.getD j 0))) :
    Calls Try.prog 6 #[.string s, .int .i64 n, .slice a zs.length cap] w fun e w' => e = .returned (.bool true) ∧ Below w.heap.size w w' := by
  have HA := Lib.hid hA
  have HAA := Lib.hid ha
  have HZ2 := Lib.hid hz2
  have HG := Lib.hid hg
  clear hA ha hz2 hg
  go_enter Try.func6, Try.ntmps6
  go_wp2_with (go_at_call 12; refine (asked_yes _ _ _ _ _ hs hlen).mono ?_; rintro e w' ⟨rfl, rfl⟩)
  go_loop [37] (fun i => ∃ k : Nat, k ≤ zs.length ∧ i = .int .i64 k ∧ ∀ j, j < k → zs.getD j 0 ≤ 5000) (fun i => zs.length - (intOf i).toNat)
  case atStart => exact ⟨0, Nat.zero_le _, rfl, fun j hj => by omega⟩
  case round =>
    obtain ⟨k, hk, rfl, hall⟩ := hrel
    have HALL := Lib.hid hall
    clear hall
    by_cases hlt : k < zs.length
    · rcases HAA.out with h0 | rfl
      · omega
      have hcz := HA.out k hlt
      have hall2 : zs.getD k 0 ≤ 5000 → ∀ j, j < k + 1 → zs.getD j 0 ≤ 5000 := fun h j hj => by
        by_cases e : j = k
        · subst e; exact h
        · exact HALL.out j (by omega)
      have HALL2 := Lib.hid hall2
      clear hall2
      generalize zs.getD k 0 = z at *
      by_cases hz : 5000 < z
      · go_wp2
        go_ret
        exact ⟨rfl, Below.refl _ _⟩
      · go_wp2_with fail
        go_round
        case rel => exact ⟨k + 1, by omega, by go_num, HALL2.out (by omega)⟩
        case measure => simp [intOf]; omega
    · have : k = zs.length := by omega
      subst this
      have hz5 : ∀ z ∈ zs, z ≤ 5000 := fun z hz => by
        obtain ⟨j, hj, rfl⟩ := List.getElem_of_mem hz
        have := HALL.out j hj
        simpa [List.getD, List.getElem?_eq_getElem hj] using this
      have HZ5 := Lib.hid hz5
      clear hz5
      go_wp2_with fail
      refine (lenr.lenRead13 s n a A off cap zs w ev HG.out hs hn1 hn2 hlen HZ5.out HZ2.out HAA.out HA.out).mono ?_
      rintro e w1 ⟨v, B, rfl, hown, hb⟩
      have hi := lenr.stateL_inv s n zs zs.length (Nat.le_refl _)
      have hla := fun j hj => list_at s n zs zs.length (Nat.le_refl _) j hj
      rw [List.take_length] at hi hla
      rw [hi.2.2] at hown
      obtain ⟨g, vcap, rfl, hg, hvc, hvm, hcell⟩ := Mem.own_cells hown (by omega)
      have hlist : ∀ j, j < zs.length + 1 → w1.cell? ⟨g, j, none⟩ = some (.int .i64 (lenr.stateL s n (zs.take j)).2.1) := fun j hj => by
        rw [hcell j hj, List.getElem?_map, hla j (by omega)]; rfl
      have hA1 : ∀ j, j < zs.length → w1.cell? ⟨A, off + j, none⟩ = some (.int .i64 (zs.getD j 0)) := fun j hj => hb.cellAt (HA.out j hj) (by simp)
      have hc0 : w1.cell? ⟨g, 0, none⟩ = some (.int .i64 n) := by
        have := hlist 0 (by omega)
        simpa [lenr.stateL] using this
      have HL := Lib.hid hlist
      have HA1 := Lib.hid hA1
      have HB := Lib.hid hb
      clear hi hla hown hcell hlist hA1 hb hg hvm
      go_wp2_with fail
      go_loop [1, 11, 72] (fun m r i => ∃ k : Nat, k ≤ zs.length ∧ i = .int .i64 k ∧ m = .int .i64 (lenr.stateL s n (zs.take k)).2.1 ∧ r = .int .i64 (lenr.stateL s n (zs.take k)).1.size) (fun _ _ i => zs.length - (intOf i).toNat)
      case atStart => exact ⟨0, Nat.zero_le _, rfl, by simp [lenr.stateL], by simp [lenr.stateL]⟩
      case round =>
        obtain ⟨k, hk, rfl, rfl, rfl⟩ := hrel
        rename w1 = w1 => hq
        clear hq
        by_cases hlt : k < zs.length
        · rcases HAA.out with h0 | ha
          · omega
          have hcz := HA1.out k hlt
          have hck : w1.cell? ⟨g, 1 + k, none⟩ = some (.int .i64 (lenr.stateL s n (zs.take (k + 1))).2.1) := by rw [Nat.add_comm]; exact HL.out (k + 1) (by omega)
          have hsn := lenr.stateL_snoc s n zs k hlt
          obtain ⟨i1, i2, i3⟩ := lenr.stateL_inv s n zs k hk
          obtain ⟨g1, g2, g3⟩ := lenr.stepL_inv (lenr.stateL s n (zs.take k)) (zs.getD k 0)
          rw [← hsn] at g1 g2
          have hmx : max (0 : Int) (min (zs.getD k 0) ((lenr.stateL s n (zs.take k)).1.size : Int)) = (lenr.came (zs.getD k 0).toNat (lenr.stateL s n (zs.take k)).1 : Int) := by
            unfold lenr.came; omega
          have hz5 : zs.getD k 0 ≤ 5000 := HZ5.out _ (by simp [List.getD, List.getElem?_eq_getElem hlt])
          have hzl : -9223372036854775808 ≤ zs.getD k 0 := HZ2.out _ (by simp [List.getD, List.getElem?_eq_getElem hlt])
          clear hsn g3 i3
          generalize lenr.came (zs.getD k 0).toNat (lenr.stateL s n (zs.take k)).1 = m at *
          generalize zs.getD k 0 = z at *
          have e1 : (lenr.stateL s n (zs.take (k + 1))).2.1 = (lenr.stateL s n (zs.take k)).2.1 - m := g2
          have e2 : (((lenr.stateL s n (zs.take (k + 1))).1.size : Nat) : Int) = ((lenr.stateL s n (zs.take k)).1.size : Int) - m := by omega
          rw [e1] at hck
          have E1 := Lib.hid e1
          have E2 := Lib.hid e2
          have b3 : (m : Int) ≤ ((lenr.stateL s n (zs.take k)).1.size : Int) := by omega
          have b4 : ((lenr.stateL s n (zs.take k)).1.size : Int) ≤ 2000 := by omega
          have b5 : -7000 ≤ (lenr.stateL s n (zs.take k)).2.1 := by omega
          have b6 : (lenr.stateL s n (zs.take k)).2.1 ≤ 5000 := by omega
          clear e1 e2 g1 g2 i1 i2
          generalize (lenr.stateL s n (zs.take k)).2.1 = l at *
          generalize (lenr.stateL s n (zs.take k)).1.size = r at *
          subst ha
          go_wp2
          go_round
          case rel => exact ⟨k + 1, by omega, by go_num, by rw [E1.out], by rw [E2.out]⟩
          case measure => simp [intOf]; omega
        · have : k = zs.length := by omega
          subst this
          go_wp2
          go_ret
          exact ⟨rfl, HB.out.toBelow⟩

theorem walk (a0 : ByteArray) (a1 : Int) (a2 : Option Addr) (len2 cap2 : Nat) (z2 : List Int) (w : World) (w0 : a0.size ≤ maxLen) (w1 : (Lit.int .i64 a1).wf = true) (w2 : IsRow .i64 w a2 len2 cap2 z2) (hev : ∃ ev, w.cell? ⟨1, 0, none⟩ = some ev) :
    Calls Try.prog 6 #[.string a0, .int .i64 a1, .slice a2 len2 cap2] w fun e w' => e = .returned (.bool true) ∧ Below w.heap.size w w' := by
  obtain ⟨ev, hev⟩ := hev
  unfold maxLen at w0
  have hl9 : len2 ≤ 9223372036854775807 := by
    rcases w2 with ⟨_, h, _, _⟩ | ⟨x, _, hl, hm, _⟩
    · omega
    · unfold maxLen at hm; omega
  by_cases h1 : 2147483647 < a0.size
  · have g1 : (2147483647 : Int) < (a0.size : Int) := by omega
    clear w2
    go_enter Try.func6, Try.ntmps6
    go_wp2
    go_ret
    exact ⟨rfl, Below.refl _ _⟩
  by_cases h2 : 2147483647 < len2
  · have g1 : ¬ (2147483647 : Int) < (a0.size : Int) := by omega
    have g2 : (2147483647 : Int) < (len2 : Int) := by omega
    clear w2 h1
    go_enter Try.func6, Try.ntmps6
    go_wp2
    go_ret
    exact ⟨rfl, Below.refl _ _⟩
  have g1 : ¬ (2147483647 : Int) < (a0.size : Int) := by omega
  have g2 : ¬ (2147483647 : Int) < (len2 : Int) := by omega
  by_cases h3 : a0.size ≤ 2000 ∧ len2 ≤ 50
  · by_cases h4 : a1 < -5000
    · clear w2 h1 h2
      go_enter Try.func6, Try.ntmps6
      go_wp2_with (go_at_call 12; refine (asked_yes _ _ _ _ _ h3.1 h3.2).mono ?_; rintro e w' ⟨rfl, rfl⟩)
      go_ret
      exact ⟨rfl, Below.refl _ _⟩
    by_cases h5 : 5000 < a1
    · clear w2 h1 h2
      go_enter Try.func6, Try.ntmps6
      go_wp2_with (go_at_call 12; refine (asked_yes _ _ _ _ _ h3.1 h3.2).mono ?_; rintro e w' ⟨rfl, rfl⟩)
      go_ret
      exact ⟨rfl, Below.refl _ _⟩
    obtain ⟨zs, A, off, hlen, ha, hA, hz2⟩ := row_list w2
    subst hlen
    exact good a0 a1 a2 A off cap2 zs w ev hev h3.1 (by omega) (by omega) h3.2 hz2 ha hA
  · have H3 := Lib.hid h3
    clear w2 h1 h2 h3
    go_enter Try.func6, Try.ntmps6
    go_wp2_with (go_at_call 12; refine (asked_no _ _ _ _ _ H3.out (by omega) (by omega)).mono ?_; rintro e w' ⟨rfl, rfl⟩)
    go_ret
    exact ⟨rfl, Below.refl _ _⟩

/-! ### THE ROW's STEP: WRITTEN OUT: LEAVE IT -/
set_option maxRecDepth 100000 in
theorem lifted (os : Os) (started : os.Started) (H : Type) (enc : TypeId × Value → H) :
    ReturnsInHanded {} Try.checked os 6 .any (Rows.fnLenReadSpec.pre6 enc Try.prog Try.f6 Rows.fnLenReadRow.domain false) (Rows.fnLenReadSpec.post enc Try.prog Try.f6 false true false false) := by
  refine returnsInHanded_of_change_shaped (C := Try.checked) own started (by kernel_rfl) Try.func6
    (ChangeSpec.witness6 (enc := enc) (C := Try.checked) false ⟨#[], #[.string ByteArray.empty, .int .i64 0, .slice none 0 0], []⟩ 8 (by kernel_rfl) (by kernel_rfl) (by kernel_rfl) (by kernel_rfl)) ?_
  intro W base args ds gs before hval0 hW hcnd hreach hshape _
  have hval : ∀ (j : Nat) t v, Try.f6.params[j]? = some t → args[j]? = some v → Value.okWide Try.prog W .any base t v := hval0
  have hW' := hW
  obtain ⟨p, q, hA0, hV, rfl, hfz, hnd⟩ := hW
  have hA : DataW.TrodAll enc Try.prog W 0 (fun _ => true) true Try.f6.params.toList args.toList ds p := hA0
  rw [Try.params6] at hA hval
  obtain ⟨v0, vs0, d0, ds0, p0, q0, hargs, rfl, rfl, h0, r0⟩ := trodAll_cons hA
  obtain ⟨v1, vs1, d1, ds1, p1, q1, rfl, rfl, rfl, h1, r1⟩ := trodAll_cons r0
  obtain ⟨v2, vs2, d2, ds2, p2, q2, rfl, rfl, rfl, h2, r2⟩ := trodAll_cons r1
  obtain ⟨rfl, rfl, rfl⟩ := trodAll_nil r2
  obtain rfl : args = #[v0, v1, v2] := by cases args; simp_all
  obtain ⟨rfl, rfl⟩ := trodVars_none hV
  obtain ⟨a0, rfl, rfl, rfl, w0⟩ := open_string Try.underlying9 (hval 0 9 v0 rfl rfl) h0
  obtain ⟨a1, rfl, rfl, rfl, w1⟩ := open_int Try.underlying3 (hval 1 3 v1 rfl rfl) h1
  obtain ⟨a2, len2, cap2, rfl⟩ := okWide_slice Try.underlying34 (hval 2 34 v2 rfl rfl)
  have k2 := h2
  have lt2 : ∀ x ∈ p2, x.block < W.heap.size := by obtain ⟨m, hm⟩ := k2; exact DataW.trod_lt m _ _ _ hm
  obtain ⟨z2, w2⟩ : ∃ zs, IsRow .i64 W a2 len2 cap2 zs := by
    obtain ⟨fuel, hf⟩ := h2
    rcases open_ints Try.underlying34 Try.underlying3 (by kernel_rfl) hf with ⟨hcs, _⟩ | ⟨x, l, c, zs, hcs, _, hl, hm, hz, _, hcell, hwz⟩
    · simp [Value.cells] at hcs
      obtain ⟨rfl, rfl, rfl⟩ := hcs
      exact ⟨[], .inl ⟨rfl, rfl, rfl, rfl⟩⟩
    · simp [Value.cells] at hcs
      obtain ⟨rfl, rfl, rfl⟩ := hcs
      exact ⟨zs, .inr ⟨_, rfl, hl, hm, by simpa using hz, hcell, hwz⟩⟩
  clear hA0 hval0
  have hev := Mem.cell_of_shaped (g := 1) (t := 53) (zero := #[.nilIface]) hshape (of_decide_eq_true (by kernel_rfl)) (by kernel_rfl) rfl
  refine (walk a0 a1 a2 len2 cap2 z2 W w0 w1 w2 hev).mono fun e W' ⟨he, bel⟩ => ?_
  subst he
  exact ⟨_, rfl, _, _, _, [], _, [], hW', trodAll_mk1 (shut_bool Try.underlying4 _), (trodAll_cons_mk (shut_string Try.underlying9 w0) (trodAll_cons_mk (shut_int Try.underlying3 w1) (trodAll_cons_mk (Below.trod laidOut (by kernel_rfl) (of_decide_eq_true (by kernel_rfl)) k2 bel lt2) trodAll_mk0))), rfl, bel.frame _, fun h => by cases h⟩

theorem over : Rows.fnLenReadRow.holds Try.pinned (OpenSpec.ofChange Rows.fnLenReadSpec) :=
  OpenClaim.holds_of_wide 6 Try.f6 rfl rfl rfl rfl rfl rfl rfl ⟨rfl, rfl, rfl, rfl, rfl⟩ rfl rfl rfl rfl rfl (by kernel_rfl) Try.func6 (by kernel_rfl)
    (of_decide_eq_true (by kernel_rfl)) (by unfold Func.isWrapper; first | (rw [if_pos (by decide +kernel)]; kernel_rfl) | (rw [if_neg (by decide +kernel)]; exact ⟨rfl, rfl⟩))
    (fun os started H enc _ => lifted os started H enc)

theorem proved : Rows.FnLenReadSaid := over
#print axioms proved
end Go.Proofs.Ytciicifdehicgaa.fnLenRead
