/-
  Proved: the contracts of radix.NewEvalScript, radix.DoorEvalSum and impl.ScriptSum.
  Conditions: texts of at most 100000 bytes.
-/
import Derived.Test.YtdlimgghcpbkcaaShaI
namespace Go.Proofs.Ytdlimgghcpbkcaa.sha
open Go.RowKit Mem Go.Great
set_option linter.unusedVariables false

/-- The name of a script. -/
def hexSum (s : ByteArray) : ByteArray := ⟨(Lib.Hx.encode (sum s.data.toList)).toArray⟩
theorem bytesOf_nums (l : List UInt8) : Lib.bytesOf (l.map fun b => (b.toNat : Int)) = l := by
  have e : ((fun n : Int => UInt8.ofNat n.toNat) ∘ fun b : UInt8 => (b.toNat : Int)) = id := by funext b; simp
  simp [Lib.bytesOf, e]

/-- A whole row into the block that was made last. -/
theorem wpList_store_fresh {P : Program} {ops : Array Oper} {rest : List Oper} {o : Oper} {a : Act} {w : World} {Q : Exit → Act → World → Prop} {Z : Array Value} {t : TypeId} (hgd : o.guard = none) (ty : TypeId) (x y : Operand) (ho : o.op = .store ty x y)
    (hd : o.dst = none) (N : Nat) (hN : w.heap.size = N) (cells : Array Value) (hx : a.eval x = .pointer (some ⟨N, 0, none⟩)) (hy : a.eval y = .agg cells)
    (hi : (P.info? ty).map (·.size) = some cells.size) (hold : Z.size = cells.size) (h1 : cells.all (·.oneCell') = true)
    (h : ∀ W, Hid (W.heap[N]? = some (.cells cells t (0, 0))) → Hid (But [] w W) → wpList P ops Q rest a W) : wpList P ops Q (o :: rest) a (w.alloc (.cells Z t)) := by
  subst hN
  refine wpList_store_rowTo hgd ty x y ho hd w.heap.size cells hx hy t Z (Go.heap_alloc_new w _) hi hold h1 (h _ (Lib.hid (setRow_heap _ _ _ _ _ _ (Go.heap_alloc_new w _))) (Lib.hid (but_setRow ((But.refl [] w).alloc _) (Or.inr (Nat.le_refl _)) _)))

set_option maxRecDepth 100000 in
set_option maxHeartbeats 400000 in
theorem new45 (s : ByteArray) (hsz : s.size ≤ 100000) (w : World) :
    Calls Try.prog 45 #[.string s] w fun e w' => e = .returned (.agg #[.string s, .string (hexSum s)]) ∧ Below w.heap.size w w' := by
  have hlen : s.data.toList.length = s.size := by simp
  obtain ⟨W1, hW1⟩ : ∃ W1, w.alloc (.cells #[.string ⟨#[]⟩, .string ⟨#[]⟩] 107) = W1 := ⟨_, rfl⟩
  have z1 : W1.heap.size = w.heap.size + 1 := by rw [← hW1]; exact heap_alloc_size _ _
  have r1 : W1.heap[w.heap.size]? = some (.cells #[.string ⟨#[]⟩, .string ⟨#[]⟩] 107 (0, 0)) := hW1 ▸ Go.heap_alloc_new w _
  have b1 : But [] w W1 := hW1 ▸ (But.refl [] w).alloc _
  have hcv := Lib.run_convert_string_bytes W1 9 50 5 s Try.underlying9 Try.underlying50 Try.underlying5
  have hge := grownCap_ge W1 s.size 0 5
  have hc2 := fun j hj => Lib.bytesWorld_cell W1 5 s j hj
  have hz2 := Lib.bytesWorld_size W1 5 s
  have b2 := bytes_but [] W1 5 s
  obtain ⟨c1, hc1⟩ : ∃ c1, grownCap W1 s.size 0 5 = c1 := ⟨_, rfl⟩
  obtain ⟨W2, hW2⟩ : ∃ W2, Lib.bytesWorld W1 5 s = W2 := ⟨_, rfl⟩
  rw [hc1, hW2, z1] at hcv
  rw [hc1] at hge
  rw [hW2] at hz2 b2
  rw [z1] at hz2
  simp only [hW2, z1] at hc2
  have h60 := sum60 s.data.toList (w.heap.size + 1) 0 c1 W2 (by omega) (by rw [hlen]; exact hge) (by omega) (fun j hj => by rw [Nat.zero_add]; exact hc2 j (by omega))
  rw [hlen] at h60
  have B2 := Lib.hid (b1.trans b2)
  have R2 := Lib.hid (b2.heapAt r1 (by simp))
  clear hge hc2 b1 b2 hc1 hW2 r1
  obtain ⟨CS, hCS⟩ : ∃ CS, (Lib.byteCells (sum s.data.toList)).toArray = CS := ⟨_, rfl⟩
  rw [hCS] at h60
  have hsl : (sum s.data.toList).length = 20 := rfl
  have HSZ : Hid (CS.size = 20) := Lib.hid (by rw [← hCS, List.size_toArray, Lib.byteCells_length]; exact hsl)
  have HALL : Hid (CS.all (·.oneCell') = true) := Lib.hid (by
    rw [← hCS, Array.all_eq_true_iff_forall_mem]
    intro v hv
    exact Lib.byteCells_one _ v (by simpa using hv))
  have hhx : ∀ (W : World) (N : Nat), W.heap[N]? = some (.cells CS 134 (0, 0)) → Calls Try.prog 61 #[.slice (some ⟨N, 0, none⟩) 20 20] W fun e w' => e = .returned (.string (hexSum s)) ∧ Below W.heap.size W w' := by
    intro W N h
    have hlt : N < W.heap.size := (Array.getElem?_eq_some_iff.1 h).1
    have hx := Try.hex_EncodeToString N 0 20 20 ((sum s.data.toList).map fun b => (b.toNat : Int)) W (by rw [List.length_map]; exact hsl) (fun i hi => by
      have hi' : i < (sum s.data.toList).length := by omega
      have := ((sum s.data.toList)[i]).toNat_lt
      simp [hi']; omega) (fun i hi => by
      have hi' : i < (sum s.data.toList).length := by omega
      rw [Nat.zero_add, cell_of_row _ _ i _ _ _ h, ← hCS]
      simp [Lib.byteCells, hi']) hlt (by omega)
    rw [bytesOf_nums] at hx
    exact hx
  have H60 := Lib.hid h60
  have HHX := Lib.hid hhx
  clear h60 hhx hCS hsl hlen
  go_enter Try.func45, Try.ntmps45
  go_wp2_with (fail)
  refine H60.out.mono ?_
  rintro e w2 ⟨rfl, hb2⟩
  clear hcv hW1 z1
  have k0 := Below.at hb2 (by omega) R2.out
  have HB2 := Lib.hid hb2
  have K0 := Lib.hid k0
  clear hb2 k0
  go_wp2_with (first
    | (refine wpList_store_fresh rfl 134 (.tmp 3) (.tmp 7) rfl rfl w2.heap.size rfl CS rfl rfl (by rw [HSZ.out]; kernel_rfl) (by rw [HSZ.out]; rfl) HALL.out ?_; intro W3 hr3 hb3; (have HX3 := Lib.hid (HHX.out W3 w2.heap.size hr3.out)); (have K3 := Lib.hid (hb3.out.heapAt K0.out (by simp))); clear hr3)
    | (go_at_call 61; refine HX3.out.mono ?_; rintro e W4 ⟨rfl, hb4⟩; have k4 := (hb4.block _ (Array.getElem?_eq_some_iff.1 K3.out).1).trans K3.out; have d0 := cell_of_row _ _ 0 _ _ _ k4; have d1 := cell_of_row _ _ 1 _ _ _ k4; simp only [List.getElem?_toArray, List.getElem?_cons_zero, List.getElem?_cons_succ] at d0 d1; have f0 := frozen_of_row _ _ 0 _ _ k4; have f1 := frozen_of_row _ _ 1 _ _ k4; (have HB4 := Lib.hid hb4); (have K4 := Lib.hid k4); clear hb4 k4))
  refine ⟨rfl, _, results_cell_row (p := 2) (ty := 107) rfl _ _ w.heap.size 107 #[.string s, .string (hexSum s)] (0, 0) _ rfl (row_setCell (row_setCell (l := [.string ⟨#[]⟩, .string ⟨#[]⟩]) K4.out 0 _) 1 _) Try.underlying107 rfl (by kernel_rfl), rfl, ?_⟩
  have h2 := B2.out.size
  have h3 := HB2.out.size
  have h4 := hb3.out.size
  have b4 : Below w.heap.size w W4 := ((B2.out.toBelow.trans (HB2.out.mono (by omega))).trans (hb3.out.toBelow.mono (by omega))).trans (HB4.out.mono (by omega))
  exact (b4.setCell (Nat.le_refl _) _).setCell (Nat.le_refl _) _

set_option maxRecDepth 100000 in
theorem sum30 (s : ByteArray) (hsz : s.size ≤ 100000) (w : World) :
    Calls Try.prog 30 #[.string s] w fun e w' => e = .returned (.string (hexSum s)) ∧ Below w.heap.size w w' := by
  have HC := Lib.hid (new45 s hsz w)
  have hfd : ∀ W, (Instr.field 107 (.agg #[.string s, .string (hexSum s)]) 1).run Try.prog W = .ok (.string (hexSum s)) W := fun _ => by kernel_rfl
  go_enter Try.func30, Try.ntmps30
  go_wp2_with (go_at_call 45; refine HC.out.mono ?_; rintro e w2 ⟨rfl, hb2⟩; (have HB2 := Lib.hid hb2); clear hb2)
  go_ret
  exact ⟨rfl, HB2.out⟩

theorem catch29 (p q : Addr) (w : World) :
    CallsD Try.prog 29 #[.pointer (some p), .pointer (some q)] .returning w fun e u' w' => e = .returned (.tuple #[]) ∧ u' = .returning ∧ w = w' := by
  refine callsD_of_wpS Try.func29 rfl fun c₀ cs hu => ?_
  apply wpS_seq
  apply wpS_region
  simp [wpOpsS, go_sem, recoverD, hu, Try.ntmps29, Exit.thenS]
  refine wpS_cond (t := false) (by simp [Act.eval, Array.replicate]) ?_
  simp only [Bool.false_eq_true, if_false]
  refine wpS_of_wp (wp_skip ?_)
  cases c₀
  simp_all [bodyPostS, results, Try.results29]

set_option maxHeartbeats 400000 in
theorem sum13 (s : ByteArray) (hsz : s.size ≤ 100000) (w : World) :
    Calls Try.prog 13 #[.string s] w fun e w' => e = .returned (.tuple #[.string (hexSum s), .bool true]) ∧ Below w.heap.size w w' := by
  have hmf : ∀ (fn : Fn) (first cap : Array Value) (w : World), (Instr.makeFunc fn first cap).run Try.prog w = .ok (.func fn first cap) w := fun _ _ _ _ => rfl
  obtain ⟨W3, hW3⟩ : ∃ W3, (w.alloc (.cells #[.string ⟨#[]⟩] 9)).alloc (.cells #[.bool false] 4) = W3 := ⟨_, rfl⟩
  have b3 : But [] w W3 := hW3 ▸ ((But.refl [] w).alloc _).alloc _
  have s3 : W3.heap.size = w.heap.size + 1 + 1 := by rw [← hW3]; simp
  have h0 : W3.heap[w.heap.size]? = some (.cells #[.string ⟨#[]⟩] 9 (0, 0)) := hW3 ▸ ((But.refl [] _).alloc _).heapAt (Go.heap_alloc_new w _) (by simp)
  have h1 : W3.heap[w.heap.size + 1]? = some (.cells #[.bool false] 4 (0, 0)) := by
    have h := Go.heap_alloc_new (w.alloc (.cells #[.string ⟨#[]⟩] 9)) (.cells #[.bool false] 4)
    have e : (w.alloc (.cells #[.string ⟨#[]⟩] 9)).heap.size = w.heap.size + 1 := by simp
    rw [e] at h
    rw [← hW3]
    exact h
  have HC := Lib.hid (sum30 s hsz W3)
  have H0 := Lib.hid h0
  have H1 := Lib.hid h1
  have B3 := Lib.hid b3
  have S3 := Lib.hid s3
  clear h0 h1 b3 s3
  go_enter_defers Try.func13, Try.ntmps13
  go_wp2_with (fail)
  refine HC.out.mono ?_
  rintro e w3 ⟨rfl, hb⟩
  have e0 := Below.at hb (by have := S3.out; omega) H0.out
  have e1 := Below.at hb (by have := S3.out; omega) H1.out
  have k0 : w3.cell? ⟨w.heap.size, 0, none⟩ = some (.string ⟨#[]⟩) := cell_of_row _ _ 0 _ _ _ e0
  have k1 : w3.cell? ⟨w.heap.size + 1, 0, none⟩ = some (.bool false) := cell_of_row _ _ 0 _ _ _ e1
  have f0 : w3.frozen? ⟨w.heap.size, 0, none⟩ = false := frozen_of_row _ _ 0 _ _ e0
  have f1 : w3.frozen? ⟨w.heap.size + 1, 0, none⟩ = false := frozen_of_row _ _ 0 _ _ e1
  have HB := Lib.hid hb
  clear hb e0 e1 hW3
  go_wp2
  refine leaves_cons (f := 29) (args := #[.pointer (some ⟨w.heap.size, 0, none⟩), .pointer (some ⟨w.heap.size + 1, 0, none⟩)]) (by simp) (by simp [go_sem]) ?_
  refine (catch29 _ _ _).mono ?_
  rintro e u' w'' ⟨rfl, rfl, rfl⟩
  have q0 : (w3.setCell ⟨w.heap.size, 0, none⟩ (.string (hexSum s))).cell? ⟨w.heap.size, 0, none⟩ = some (.string (hexSum s)) := World.cell?_setCell_same _ _ _ k0
  have q1 : ((w3.setCell ⟨w.heap.size, 0, none⟩ (.string (hexSum s))).setCell ⟨w.heap.size + 1, 0, none⟩ (.bool true)).cell? ⟨w.heap.size + 1, 0, none⟩ = some (.bool true) :=
    World.cell?_setCell_same _ _ _ ((World.cell?_setCell_other _ _ _ _ (by simp)).trans k1)
  simp [Leaves, settle, results, Try.results13, go_sem, q0, q1]
  have z1 := B3.out.size
  have c2 : Below w.heap.size w w3 := B3.out.toBelow.trans (HB.out.mono z1)
  exact (c2.setCell (Nat.le_refl _) _).setCell (by simp) _
end Go.Proofs.Ytdlimgghcpbkcaa.sha
