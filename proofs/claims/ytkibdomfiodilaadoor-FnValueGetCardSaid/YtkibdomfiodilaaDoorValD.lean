/-
  Proved: the contracts of lineprotocol's constructors of a Value, and of impl.value.
  Conditions: each contract's own.
-/
import Derived.Test.YtkibdomfiodilaaDoorValC
import Derived.Test.YtkibdomfiodilaaDoorVld
import Derived.Test.YtkibdomfiodilaaDoorUtfD
namespace Go.Proofs.YtkibdomfiodilaaDoor.val
open Go.RowKit Mem rw
set_option linter.unusedVariables false
attribute [local go_sem] store_float

theorem abs61 (f : Nat) (hf : f < 2 ^ 64) (w : World) :
    Calls Tryd.prog 61 #[.float .f64 f] w fun e w' => e = .returned (.float .f64 (f % 2 ^ 63)) ∧ w = w' := by
  have h1 := run_bits f
  have h2 := flt.abs_bits f hf
  have h3 := run_frombits (f % 2 ^ 63)
  obtain ⟨g, hg⟩ : ∃ g, f % 2 ^ 63 = g := ⟨_, rfl⟩
  rw [hg] at h2 h3 ⊢
  clear hg
  go_enter Tryd.func61, Tryd.ntmps61
  go_wp2
  go_ret
  exact ⟨rfl, rfl⟩
theorem inf47 (f : Nat) (hf : f < 2 ^ 64) (w : World) :
    Calls Tryd.prog 47 #[.float .f64 f, .int .i64 0] w fun e w' => e = .returned (.bool (flt.isInf f)) ∧ w = w' := by
  have ha := abs61 f hf
  have hu : flt.isInf f = (FloatKind.f64.format.order (f % 2 ^ 63) 9218868437227405311 == some .gt) := rfl
  rw [hu]
  clear hu
  obtain ⟨g, hg⟩ : ∃ g, f % 2 ^ 63 = g := ⟨_, rfl⟩
  rw [hg] at ha ⊢
  clear hg
  have HA := Lib.hid ha
  clear ha
  go_enter Tryd.func47, Tryd.ntmps47
  go_wp2_with fail
  refine (HA.out _).mono ?_
  rintro e w1 ⟨rfl, rfl⟩
  go_wp2
  go_ret
  exact ⟨rfl, rfl⟩
theorem nan48 (f : Nat) (w : World) :
    Calls Tryd.prog 48 #[.float .f64 f] w fun e w' => e = .returned (.bool (!(FloatKind.f64.format.order f f == some .eq))) ∧ w = w' := by
  go_enter Tryd.func48, Tryd.ntmps48
  go_wp2
  go_ret
  exact ⟨rfl, rfl⟩
/-! ### constructors -/

theorem new_IntValue (n : Int) (w : World) :
    Calls Tryd.prog 33 #[.int .i64 n] w fun e w' => e = .returned (.agg #[.int .u64 (IntKind.u64.wrap n), .slice none 0 0, .int .u8 2]) ∧ Hid (But [] w w') := by
  have hB : Hid (∀ o, But [] w (w.alloc o)) := Lib.hid fun o => (But.refl [] w).alloc o
  go_enter Tryd.func33, Tryd.ntmps33
  go_wp2
  exact ⟨rfl, _, results_cell_row (p := 2) (ty := 48) rfl _ _ w.heap.size 48 _ (0, 0) _ rfl (heap_alloc_new _ _) Tryd.underlying48 rfl (by kernel_rfl), rfl, Lib.hid (hB.out _)⟩

theorem new_UintValue (n : Int) (w : World) :
    Calls Tryd.prog 34 #[.int .u64 n] w fun e w' => e = .returned (.agg #[.int .u64 n, .slice none 0 0, .int .u8 3]) ∧ Hid (But [] w w') := by
  have hB : Hid (∀ o, But [] w (w.alloc o)) := Lib.hid fun o => (But.refl [] w).alloc o
  go_enter Tryd.func34, Tryd.ntmps34
  go_wp2
  exact ⟨rfl, _, results_cell_row (p := 2) (ty := 48) rfl _ _ w.heap.size 48 _ (0, 0) _ rfl (heap_alloc_new _ _) Tryd.underlying48 rfl (by kernel_rfl), rfl, Lib.hid (hB.out _)⟩

theorem new_BoolValue (b : Bool) (n : Int) (hn : (n = 1 ∧ b = true) ∨ (n = 0 ∧ b = false)) (w : World) :
    Calls Tryd.prog 36 #[.bool b] w fun e w' => e = .returned (.agg #[.int .u64 n, .slice none 0 0, .int .u8 5]) ∧ Hid (But [] w w') := by
  have hB : Hid (∀ o, But [] w (w.alloc o)) := Lib.hid fun o => (But.refl [] w).alloc o
  obtain ⟨rfl, rfl⟩ | ⟨rfl, rfl⟩ := hn
  all_goals
    go_enter Tryd.func36, Tryd.ntmps36
    go_wp2
    exact ⟨rfl, _, results_cell_row (p := 2) (ty := 48) rfl _ _ w.heap.size 48 _ (0, 0) _ rfl (heap_alloc_new _ _) Tryd.underlying48 rfl (by kernel_rfl), rfl, Lib.hid (hB.out _)⟩

theorem new_float (f : Nat) (hf : f < 2 ^ 64) (w : World) :
    Calls Tryd.prog 35 #[.float .f64 f] w fun e w' => e = .returned (.tuple #[if flt.fin f then .agg #[.int .u64 (f : Int), .slice none 0 0, .int .u8 4] else .agg #[.int .u64 0, .slice none 0 0, .int .u8 0], .bool (flt.fin f)]) ∧ Hid (But [] w w') := by
  have hB : Hid (∀ o, But [] w (w.alloc o)) := Lib.hid fun o => (But.refl [] w).alloc o
  have h1 := inf47 f hf
  have h2 := nan48 f
  have h3 := flt.fin_split f
  have hb := run_bits f
  obtain ⟨i, hi⟩ : ∃ i, flt.isInf f = i := ⟨_, rfl⟩
  obtain ⟨q, hq⟩ : ∃ q, (FloatKind.f64.format.order f f == some .eq) = q := ⟨_, rfl⟩
  rw [hi, hq] at h3
  rw [hi] at h1
  rw [hq] at h2
  rw [h3]
  have H1 := Lib.hid h1
  have H2 := Lib.hid h2
  clear h1 h2 h3 hi hq
  obtain ⟨rfl, rfl⟩ | h0 : (i = false ∧ q = true) ∨ (!i && q) = false := by cases i <;> cases q <;> simp
  · show Calls Tryd.prog 35 #[.float .f64 f] w fun e w' => e = .returned (.tuple #[.agg #[.int .u64 (f : Int), .slice none 0 0, .int .u8 4], .bool true]) ∧ Hid (But [] w w')
    go_enter Tryd.func35, Tryd.ntmps35
    go_wp2_with (first | (go_at_call 47; refine (H1.out _).mono ?_; rintro e w1 ⟨rfl, rfl⟩) | (go_at_call 48; refine (H2.out _).mono ?_; rintro e w1 ⟨rfl, rfl⟩))
    exact bodyPost_ret (v := .tuple #[.agg #[.int .u64 (f : Int), .slice none 0 0, .int .u8 4], .bool true]) (by simp [results, Tryd.results35, go_sem]) rfl ⟨rfl, Lib.hid (hB.out _)⟩
  · rw [h0]
    show Calls Tryd.prog 35 #[.float .f64 f] w fun e w' => e = .returned (.tuple #[.agg #[.int .u64 0, .slice none 0 0, .int .u8 0], .bool false]) ∧ Hid (But [] w w')
    cases i <;> cases q <;> first | (exfalso; revert h0; decide) | skip
    all_goals
      clear h0
      go_enter Tryd.func35, Tryd.ntmps35
      go_wp2_with (first | (go_at_call 47; refine (H1.out _).mono ?_; rintro e w1 ⟨rfl, rfl⟩) | (go_at_call 48; refine (H2.out _).mono ?_; rintro e w1 ⟨rfl, rfl⟩))
      exact bodyPost_ret (v := .tuple #[.agg #[.int .u64 0, .slice none 0 0, .int .u8 0], .bool false]) (by simp [results, Tryd.results35, go_sem]) rfl ⟨rfl, Lib.hid (hB.out _)⟩

theorem tabs_but {S : List Nat} {a b : Nat} {w w' : World} (h : Lib.Utf8Tabs a b w) (hb : But S w w') (ha : a ∉ S) (hb' : b ∉ S) : Lib.Utf8Tabs a b w' :=
  ⟨fun c hc => hb.cellAt (h.1 c hc) ha, fun i hi => ⟨hb.cellAt (h.2 i hi).1 hb', hb.cellAt (h.2 i hi).2 hb'⟩⟩
/-- A string's value that was made: its bytes lie at A. -/
def StrV (s : ByteArray) (e : Ending) (w w' : World) : Prop := ∃ (A c : Nat), e = .returned (.tuple #[.agg #[.int .u64 0, .slice (some ⟨A, 0, none⟩) s.size c, .int .u8 0], .bool true]) ∧ BufAt w' A s.data.toList c ∧ But [] w w' ∧ w.heap.size ≤ A
theorem new_str (s : ByteArray) (hs : s.size ≤ 2147483647) (w : World) (hT : Lib.Utf8Tabs 0 1 w) (hv : utf.V s.data.toList = true) :
    Calls Tryd.prog 32 #[.string s] w fun e w' => StrV s e w w' := by
  have hB : Hid (∀ o, But [] w (w.alloc o)) := Lib.hid fun o => (But.refl [] w).alloc o
  have HT : Hid (∀ o, Lib.Utf8Tabs 0 1 (w.alloc o)) := Lib.hid fun o => tabs_but hT ((But.refl [] w).alloc o) (by simp) (by simp)
  have HC := Lib.hid (fun w0 h => Tryd.utf8_ValidString s w0 (by omega) h)
  rw [utf.validD_V, hv] at HC
  clear hT hv
  go_enter Tryd.func32, Tryd.ntmps32
  go_wp2_with fail
  refine (HC.out _ (HT.out _)).mono ?_
  rintro e w1 ⟨rfl, b1⟩
  have r1 : Rw w1 w.heap.size [.int .u64 0, .slice none 0 0, .int .u8 0] 48 := Rw.below (Rw.new w _ _) b1 (by simp)
  have hl1 := Rw.lt r1
  have B1 : But [] w w1 := (hB.out _).trans (But.ofBelow b1)
  have kc := Lib.run_convert_string_bytes (P := Tryd.prog) w1 9 45 5 s Tryd.underlying9 Tryd.underlying45 Tryd.underlying5
  have bb := bytes_but [] w1 5 s
  have ba := BufAt.of_bytesWorld w1 s (by omega)
  obtain ⟨W2, hW2⟩ : ∃ W2, Lib.bytesWorld w1 5 s = W2 := ⟨_, rfl⟩
  rw [hW2] at kc bb ba
  have r2 := Rw.but r1 bb (by simp)
  have c0 := Rw.cell r2 0
  have c1 := Rw.cell r2 1
  have c2 := Rw.cell r2 2
  simp only [List.getElem?_cons_zero, List.getElem?_cons_succ] at c0 c1 c2
  have z0 := Rw.fz r2 0
  have z1 := Rw.fz r2 1
  have z2 := Rw.fz r2 2
  have R2 := Lib.hid r2
  have B2 := Lib.hid (B1.trans bb)
  have BA := Lib.hid ba
  clear hW2 b1 r1 B1 bb ba r2
  go_wp2
  obtain ⟨cap, hcap⟩ : ∃ cap, grownCap w1 s.size 0 5 = cap := ⟨_, rfl⟩
  have BA2 := BA.out
  rw [hcap] at BA2 ⊢
  have hr := Rw.set (Rw.set (Rw.set R2.out 0 (.int .u64 0)) 1 (.slice (some ⟨w1.heap.size, 0, none⟩) s.size cap)) 2 (.int .u8 0)
  have hbt : But [w.heap.size] W2 (((W2.setCell ⟨w.heap.size, 0, none⟩ (.int .u64 0)).setCell ⟨w.heap.size, 1, none⟩ (.slice (some ⟨w1.heap.size, 0, none⟩) s.size cap)).setCell ⟨w.heap.size, 2, none⟩ (.int .u8 0)) := (((But.refl _ W2).setCell (Or.inl (by simp)) _).setCell (Or.inl (by simp)) _).setCell (Or.inl (by simp)) _
  refine bodyPost_ret (v := .tuple #[.agg #[.int .u64 0, .slice (some ⟨w1.heap.size, 0, none⟩) s.size cap, .int .u8 0], .bool true]) ?_ rfl ?_
  · simp [results, Tryd.results32, go_sem, c0, c1, c2]
  · exact ⟨_, _, rfl, BA2.but hbt (by simp; omega), B2.out.join hbt (fun _ e => e) (fun x hx hlt => by simp at hx; omega), by omega⟩

theorem new_str_bad (s : ByteArray) (hs : s.size ≤ 2147483647) (w : World) (hT : Lib.Utf8Tabs 0 1 w) (hv : utf.V s.data.toList = false) :
    Calls Tryd.prog 32 #[.string s] w fun e w' => e = .returned (.tuple #[.agg #[.int .u64 0, .slice none 0 0, .int .u8 0], .bool false]) ∧ Hid (But [] w w') := by
  have hB : Hid (∀ o, But [] w (w.alloc o)) := Lib.hid fun o => (But.refl [] w).alloc o
  have HT : Hid (∀ o, Lib.Utf8Tabs 0 1 (w.alloc o)) := Lib.hid fun o => tabs_but hT ((But.refl [] w).alloc o) (by simp) (by simp)
  have HC := Lib.hid (fun w0 h => Tryd.utf8_ValidString s w0 (by omega) h)
  rw [utf.validD_V, hv] at HC
  clear hT hv
  go_enter Tryd.func32, Tryd.ntmps32
  go_wp2_with fail
  refine (HC.out _ (HT.out _)).mono ?_
  rintro e w1 ⟨rfl, b1⟩
  have r1 : Rw w1 w.heap.size [.int .u64 0, .slice none 0 0, .int .u8 0] 48 := Rw.below (Rw.new w _ _) b1 (by simp)
  have B1 : But [] w w1 := (hB.out _).trans (But.ofBelow b1)
  have c0 := Rw.cell r1 0
  have c1 := Rw.cell r1 1
  have c2 := Rw.cell r1 2
  simp only [List.getElem?_cons_zero, List.getElem?_cons_succ] at c0 c1 c2
  have z0 := Rw.fz r1 0
  have z1 := Rw.fz r1 1
  have z2 := Rw.fz r1 2
  have BB := Lib.hid B1
  clear r1 b1 B1
  go_wp2
  refine bodyPost_ret (v := .tuple #[.agg #[.int .u64 0, .slice none 0 0, .int .u8 0], .bool false]) ?_ rfl ⟨rfl, Lib.hid ?_⟩
  · simp [results, Tryd.results32, go_sem, c0, c1, c2]
  · exact ((BB.out.setCell (Or.inr (by simp)) _).setCell (Or.inr (by simp)) _).setCell (Or.inr (by simp)) _
end Go.Proofs.YtkibdomfiodilaaDoor.val
