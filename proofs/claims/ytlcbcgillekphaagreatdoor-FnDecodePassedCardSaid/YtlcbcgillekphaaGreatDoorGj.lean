/-
  Proved: the contract of the law's lSameEntry, of two entries that are the same · the contract of the law's lSame, of two lists of entries that are the same.
  Conditions: each law's own; a text of at most 4000 bytes where one is read.
-/
import Derived.Test.YtlcbcgillekphaaGreatDoorGc
import Derived.Laws.StructEq
import Derived.Deep.QuietTactic
import Derived.BigQuiet
import Derived.Deep.RegionHeld3
namespace Go.Proofs.YtlcbcgillekphaaGreatDoor.sam
open Go.RowKit Mem rw ent
set_option linter.unusedVariables false
set_option linter.unusedSimpArgs false

section
variable {P : Program} {d : Nat} {xs ys : Array Value} {f : Field} {fs : List Field} {a b : Value} {w : World}
theorem eqf_t (hn : (f.name == "_") = false) (ha : (part f.type xs f.offset).run P w = .ok a w) (hb : (part f.type ys f.offset).run P w = .ok b w) (he : (Op.equalIn d f.type a b).run P w = .ok true w) (hr : (Op.eqFields d xs ys fs).run P w = .ok true w) : (Op.eqFields d xs ys (f :: fs)).run P w = .ok true w := by
  have hn' : f.name ≠ "_" := by simpa using hn
  rw [Op.eqFields]
  simp only [if_pos hn', Sem.run_bind, ha, hb, he, Result.andThen_ok]
  simpa using hr
theorem eqf_nil : (Op.eqFields d xs ys []).run P w = .ok true w := by simp [Op.eqFields]
theorem eqA_of {t : TypeId} {fs : Array Field} (hu : P.underlying t = some (.struct fs)) (hp : P.stoodInHeld t = false) (h : (Op.eqFields d xs ys fs.toList).run P w = .ok true w) : (Op.equalIn (d + 1) t (.agg xs) (.agg ys)).run P w = .ok true w := by
  have hf : P.fieldsOf t = fs := by simp [Program.fieldsOf, hu]
  rw [run_equalIn_struct (P := P) w d t xs ys (by rw [hf]; exact hu) hp, hf]
  exact h
end
theorem eqFlt (d : Nat) (w : World) (x0 x3 : Bool) (x1 x2 : Int) :
    (Op.equalIn (d + 2) 39 (.agg #[.bool x0, .int .i64 x1, .int .i64 x2, .bool x3]) (.agg #[.bool x0, .int .i64 x1, .int .i64 x2, .bool x3])).run Tryz.prog w = .ok true w := by
  refine eqA_of Tryz.underlying39 (by kernel_rfl) ?_
  refine eqf_t (by rfl) (by go_simp; rfl) (by go_simp; rfl) (by go_simp) ?_
  refine eqf_t (by rfl) (by go_simp; rfl) (by go_simp; rfl) (by go_simp) ?_
  refine eqf_t (by rfl) (by go_simp; rfl) (by go_simp; rfl) (by go_simp) ?_
  refine eqf_t (by rfl) (by go_simp; rfl) (by go_simp; rfl) (by go_simp) ?_
  exact eqf_nil
theorem eqPair (d : Nat) (w : World) (x0 x1 : ByteArray) :
    (Op.equalIn (d + 2) 71 (.agg #[.string x0, .string x1]) (.agg #[.string x0, .string x1])).run Tryz.prog w = .ok true w := by
  refine eqA_of Tryz.underlying71 (by kernel_rfl) ?_
  refine eqf_t (by rfl) (by go_simp; rfl) (by go_simp; rfl) (by go_simp) ?_
  refine eqf_t (by rfl) (by go_simp; rfl) (by go_simp; rfl) (by go_simp) ?_
  exact eqf_nil
theorem eqField (d : Nat) (w : World) (x0 x2 : ByteArray) (x1 : Int) :
    (Op.equalIn (d + 2) 76 (.agg #[.string x0, .int .i64 x1, .string x2]) (.agg #[.string x0, .int .i64 x1, .string x2])).run Tryz.prog w = .ok true w := by
  refine eqA_of Tryz.underlying76 (by kernel_rfl) ?_
  refine eqf_t (by rfl) (by go_simp; rfl) (by go_simp; rfl) (by go_simp) ?_
  refine eqf_t (by rfl) (by go_simp; rfl) (by go_simp; rfl) (by go_simp) ?_
  refine eqf_t (by rfl) (by go_simp; rfl) (by go_simp; rfl) (by go_simp) ?_
  exact eqf_nil
theorem pair_at (l : List (List UInt8 × List UInt8)) (i : Nat) (hi : i < l.length) : (pairCells l)[i * 2]? = some (str (l[i]'hi).1) ∧ (pairCells l)[i * 2 + 1]? = some (str (l[i]'hi).2) := by
  induction l generalizing i with
  | nil => simp at hi
  | cons p t ih =>
    have e : pairCells (p :: t) = str p.1 :: str p.2 :: pairCells t := by simp [pairCells]
    rw [e]
    cases i with
    | zero => exact ⟨rfl, rfl⟩
    | succ i =>
      rw [show (i + 1) * 2 = i * 2 + 1 + 1 by omega]
      exact ih i (by simp at hi; omega)
theorem field_at (l : List (List UInt8 × Nat × List UInt8)) (i : Nat) (hi : i < l.length) : (fieldCells l)[i * 3]? = some (str (l[i]'hi).1) ∧ (fieldCells l)[i * 3 + 1]? = some (.int .i64 ((l[i]'hi).2.1 : Int)) ∧ (fieldCells l)[i * 3 + 2]? = some (str (l[i]'hi).2.2) := by
  induction l generalizing i with
  | nil => simp at hi
  | cons p t ih =>
    have e : fieldCells (p :: t) = str p.1 :: .int .i64 (p.2.1 : Int) :: str p.2.2 :: fieldCells t := by simp [fieldCells]
    rw [e]
    cases i with
    | zero => exact ⟨rfl, rfl, rfl⟩
    | succ i =>
      rw [show (i + 1) * 3 = i * 3 + 1 + 1 + 1 by omega]
      exact ih i (by simp at hi; omega)
/-- The pairs of a row, one by one. -/
theorem own_pair {w : World} {b : Nat} {v : Value} {l : List (List UInt8 × List UInt8)} (h : w.ownsRow b 71 2 v l.length (pairCells l)) (hn : 0 < l.length) :
    ∃ g cap, v = .slice (some ⟨g, 0, none⟩) l.length cap ∧ g < w.heap.size ∧ l.length ≤ cap ∧ cap ≤ 9223372036854775807 ∧ ∀ i (hi : i < l.length), w.cell? ⟨g, i * 2, none⟩ = some (str (l[i]'hi).1) ∧ w.cell? ⟨g, i * 2 + 1, none⟩ = some (str (l[i]'hi).2) := by
  obtain ⟨g, cap, h1, h2, h3, h4, h5, h6⟩ := own_at h hn
  exact ⟨g, cap, h1, h3, h4, h5, fun i hi => ⟨(h6 _ (by omega)).trans (pair_at l i hi).1, (h6 _ (by omega)).trans (pair_at l i hi).2⟩⟩
theorem own_field {w : World} {b : Nat} {v : Value} {l : List (List UInt8 × Nat × List UInt8)} (h : w.ownsRow b 76 3 v l.length (fieldCells l)) (hn : 0 < l.length) :
    ∃ g cap, v = .slice (some ⟨g, 0, none⟩) l.length cap ∧ g < w.heap.size ∧ l.length ≤ cap ∧ cap ≤ 9223372036854775807 ∧ ∀ i (hi : i < l.length), w.cell? ⟨g, i * 3, none⟩ = some (str (l[i]'hi).1) ∧ w.cell? ⟨g, i * 3 + 1, none⟩ = some (.int .i64 ((l[i]'hi).2.1 : Int)) ∧ w.cell? ⟨g, i * 3 + 2, none⟩ = some (str (l[i]'hi).2.2) := by
  obtain ⟨g, cap, h1, h2, h3, h4, h5, h6⟩ := own_at h hn
  exact ⟨g, cap, h1, h3, h4, h5, fun i hi => ⟨(h6 _ (by omega)).trans (field_at l i hi).1, (h6 _ (by omega)).trans (field_at l i hi).2.1, (h6 _ (by omega)).trans (field_at l i hi).2.2⟩⟩
set_option maxRecDepth 100000 in
set_option maxHeartbeats 4000000 in
theorem same16 (E : dm.En) (tv fv tv' fv' : Value) (w : World) (b b' : Nat) (h : ERows w b E.tags E.fields tv fv) (h' : ERows w b' E.tags E.fields tv' fv') :
    Calls Tryz.prog 16 #[enV E tv fv, enV E tv' fv'] w fun e w' => e = .returned (.bool true) ∧ Hid (But [] w w') := by
  obtain ⟨ta, tc, e1⟩ := own_form h.tags
  obtain ⟨fa, fc, e2⟩ := own_form h.fields
  obtain ⟨ta', tc', e3⟩ := own_form h'.tags
  obtain ⟨fa', fc', e4⟩ := own_form h'.fields
  obtain ⟨fb, l, k, e5⟩ := flC_form E.fault
  obtain ⟨nm, hnm⟩ : ∃ nm, (⟨E.name.toArray⟩ : ByteArray) = nm := ⟨_, rfl⟩
  obtain ⟨tm, htm⟩ : ∃ nm, (⟨E.time.toArray⟩ : ByteArray) = nm := ⟨_, rfl⟩
  obtain ⟨ht, hht⟩ : ∃ x, (!E.time.isEmpty) = x := ⟨_, rfl⟩
  obtain ⟨at_, hat⟩ : ∃ x, E.at_ = x := ⟨_, rfl⟩
  have ev : enV E tv fv = .agg #[.string nm, .slice ta E.tags.length tc, .slice fa E.fields.length fc, .string tm, .bool ht, .bool fb, .int .i64 l, .int .i64 k, .bool false, .int .i64 at_] := by
    unfold enV enC; rw [e5, e1, e2, str, str, hnm, htm, hht, hat]; rfl
  have ev' : enV E tv' fv' = .agg #[.string nm, .slice ta' E.tags.length tc', .slice fa' E.fields.length fc', .string tm, .bool ht, .bool fb, .int .i64 l, .int .i64 k, .bool false, .int .i64 at_] := by
    unfold enV enC; rw [e5, e3, e4, str, str, hnm, htm, hht, hat]; rfl
  rw [ev, ev']
  have HR := Lib.hid (And.intro h h')
  have HE := Lib.hid (And.intro e1 (And.intro e2 (And.intro e3 e4)))
  obtain ⟨T, hT⟩ : ∃ T, E.tags = T := ⟨_, rfl⟩
  obtain ⟨F, hF⟩ : ∃ F, E.fields = F := ⟨_, rfl⟩
  rw [hT, hF] at HR ⊢
  rw [hT, hF] at HE
  have hEF : ∀ W : World, (Op.equalIn 276 39 (.agg #[.bool fb, .int .i64 l, .int .i64 k, .bool false]) (.agg #[.bool fb, .int .i64 l, .int .i64 k, .bool false])).run Tryz.prog W = .ok true W := fun W => eqFlt _ _ _ _ _ _
  have hEP : ∀ (W : World) (x0 x1 : ByteArray), (Op.equalIn 276 71 (.agg #[.string x0, .string x1]) (.agg #[.string x0, .string x1])).run Tryz.prog W = .ok true W := fun W x0 x1 => eqPair _ _ _ _
  have hEG : ∀ (W : World) (x0 x2 : ByteArray) (x1 : Int), (Op.equalIn 276 76 (.agg #[.string x0, .int .i64 x1, .string x2]) (.agg #[.string x0, .int .i64 x1, .string x2])).run Tryz.prog W = .ok true W := fun W x0 x2 x1 => eqField _ _ _ _ _
  obtain ⟨W, hW⟩ : ∃ W, (w.alloc (.cells #[.string nm, .slice ta T.length tc, .slice fa F.length fc, .string tm, .bool ht, .bool fb, .int .i64 l, .int .i64 k, .bool false, .int .i64 at_] 41)).alloc (.cells #[.string nm, .slice ta' T.length tc', .slice fa' F.length fc', .string tm, .bool ht, .bool fb, .int .i64 l, .int .i64 k, .bool false, .int .i64 at_] 41) = W := ⟨_, rfl⟩
  have hb : But [] w W := hW ▸ ((But.refl [] w).alloc _).alloc _
  have hq0 : W.cell? ⟨w.heap.size, 2, none⟩ = some (.slice fa F.length fc) := by rw [← hW]; simp [go_sem]
  have hq1 : W.cell? ⟨w.heap.size + 1, 1, none⟩ = some (.slice ta' T.length tc') := by rw [← hW]; simp [go_sem]
  have hq2 : W.cell? ⟨w.heap.size + 1, 2, none⟩ = some (.slice fa' F.length fc') := by rw [← hW]; simp [go_sem]
  have HQ := Lib.hid (And.intro hb (And.intro hq0 (And.intro hq1 hq2)))
  have HW := Lib.hid hW
  have hTP : 0 < T.length → ∃ g g', ta = some ⟨g, 0, none⟩ ∧ ta' = some ⟨g', 0, none⟩ ∧ T.length ≤ tc ∧ T.length ≤ tc' ∧ ∀ i (hi : i < T.length), (W.cell? ⟨g, i * 2, none⟩ = some (str (T[i]'hi).1) ∧ W.cell? ⟨g, i * 2 + 1, none⟩ = some (str (T[i]'hi).2)) ∧ (W.cell? ⟨g', i * 2, none⟩ = some (str (T[i]'hi).1) ∧ W.cell? ⟨g', i * 2 + 1, none⟩ = some (str (T[i]'hi).2)) := fun hn => by
    obtain ⟨g, cap, q1, q2, q3, q4, q5⟩ := own_pair HR.out.1.tags hn
    obtain ⟨g', cap', p1, p2, p3, p4, p5⟩ := own_pair HR.out.2.tags hn
    rw [HE.out.1] at q1
    rw [HE.out.2.2.1] at p1
    cases q1; cases p1
    exact ⟨g, g', rfl, rfl, q3, p3, fun i hi => ⟨⟨hb.cellAt (q5 i hi).1 (by simp), hb.cellAt (q5 i hi).2 (by simp)⟩, hb.cellAt (p5 i hi).1 (by simp), hb.cellAt (p5 i hi).2 (by simp)⟩⟩
  have hFP : 0 < F.length → ∃ g g', fa = some ⟨g, 0, none⟩ ∧ fa' = some ⟨g', 0, none⟩ ∧ F.length ≤ fc ∧ F.length ≤ fc' ∧ ∀ i (hi : i < F.length), (W.cell? ⟨g, i * 3, none⟩ = some (str (F[i]'hi).1) ∧ W.cell? ⟨g, i * 3 + 1, none⟩ = some (.int .i64 ((F[i]'hi).2.1 : Int)) ∧ W.cell? ⟨g, i * 3 + 2, none⟩ = some (str (F[i]'hi).2.2)) ∧ (W.cell? ⟨g', i * 3, none⟩ = some (str (F[i]'hi).1) ∧ W.cell? ⟨g', i * 3 + 1, none⟩ = some (.int .i64 ((F[i]'hi).2.1 : Int)) ∧ W.cell? ⟨g', i * 3 + 2, none⟩ = some (str (F[i]'hi).2.2)) := fun hn => by
    obtain ⟨g, cap, q1, q2, q3, q4, q5⟩ := own_field HR.out.1.fields hn
    obtain ⟨g', cap', p1, p2, p3, p4, p5⟩ := own_field HR.out.2.fields hn
    rw [HE.out.2.1] at q1
    rw [HE.out.2.2.2] at p1
    cases q1; cases p1
    exact ⟨g, g', rfl, rfl, q3, p3, fun i hi => ⟨⟨hb.cellAt (q5 i hi).1 (by simp), hb.cellAt (q5 i hi).2.1 (by simp), hb.cellAt (q5 i hi).2.2 (by simp)⟩, hb.cellAt (p5 i hi).1 (by simp), hb.cellAt (p5 i hi).2.1 (by simp), hb.cellAt (p5 i hi).2.2 (by simp)⟩⟩
  have hlt : T.length ≤ 9223372036854775807 := by
    rcases Nat.eq_zero_or_pos T.length with e | e
    · omega
    · obtain ⟨g, cap, q1, q2, q3, q4, q5⟩ := own_pair HR.out.1.tags e
      omega
  have hlf : F.length ≤ 9223372036854775807 := by
    rcases Nat.eq_zero_or_pos F.length with e | e
    · omega
    · obtain ⟨g, cap, q1, q2, q3, q4, q5⟩ := own_field HR.out.1.fields e
      omega
  have HTP := Lib.hid hTP
  have HFP := Lib.hid hFP
  clear h h' e1 e2 e3 e4 e5 ev ev' hnm htm hht hat hT hF hTP hFP hW hb hq0 hq1 hq2 HE HR
  go_enter Tryz.func16, Tryz.ntmps16
  have HFB : Hid (fb = true ∨ fb = false) := Lib.hid (by cases fb <;> simp)
  cases fb
  all_goals
    go_wp2_with fail
    go_loopg [68] T.length (fun g s68 wr => ∃ j : Nat, j + g = T.length ∧ s68 = .int .i64 j ∧ Hid (But [] W wr))
    case atStart => exact ⟨0, by omega, rfl, Lib.hid (HW.out ▸ But.refl _ _)⟩
    case round =>
      obtain ⟨j, hj, rfl, hB⟩ := hrel
      cases gk with
      | succ g =>
        have hlt2 : j < T.length := by omega
        obtain ⟨A, A', rfl, rfl, hc1, hc2, hcs⟩ := HTP.out (by omega)
        obtain ⟨⟨c0, c1⟩, d0, d1⟩ := hcs j hlt2
        replace c0 := hB.out.cellAt c0 (by simp)
        replace c1 := hB.out.cellAt c1 (by simp)
        replace d0 := hB.out.cellAt d0 (by simp)
        replace d1 := hB.out.cellAt d1 (by simp)
        have q1 := hB.out.cellAt HQ.out.2.2.1 (by simp)
        unfold str at c0 c1 d0 d1
        obtain ⟨x0, hx0⟩ : ∃ x, (⟨(T[j]'hlt2).1.toArray⟩ : ByteArray) = x := ⟨_, rfl⟩
        obtain ⟨x1, hx1⟩ : ∃ x, (⟨(T[j]'hlt2).2.toArray⟩ : ByteArray) = x := ⟨_, rfl⟩
        rw [hx0] at c0 d0
        rw [hx1] at c1 d1
        have hi1 : (j : Int) < (T.length : Int) := by omega
        have hb1 : But [] wr (wr.alloc (Obj.cells #[Value.string x0, Value.string x1] 71)) := (But.refl [] wr).alloc _
        have e0 := hb1.cellAt d0 (by simp)
        have e1 := hb1.cellAt d1 (by simp)
        have e2 := hb1.cellAt q1 (by simp)
        have e3 : (wr.alloc (Obj.cells #[Value.string x0, Value.string x1] 71)).cell? ⟨wr.heap.size, 0, none⟩ = some (.string x0) := by simp [go_sem]
        have e4 : (wr.alloc (Obj.cells #[Value.string x0, Value.string x1] 71)).cell? ⟨wr.heap.size, 1, none⟩ = some (.string x1) := by simp [go_sem]
        clear hb1
        clear hcs hx0 hx1
        go_wp2_with fail
        go_quiet (fail)
        have HB1 : Hid (But [] W (World.drewN (wr.alloc (Obj.cells #[Value.string x0, Value.string x1] 71)) nq)) := Lib.hid ((hB.out.alloc _).drewN)
        go_wp2_with fail
        go_roundg g
        case measure => omega
        case rel => exact ⟨j + 1, by omega, by go_num, HB1⟩
      | zero =>
        have hge : ¬ (j : Int) < (T.length : Int) := by omega
        have q0 := hB.out.cellAt HQ.out.2.1 (by simp)
        go_wp2_with fail
        go_loopg [84] F.length (fun g s84 wr => ∃ j : Nat, j + g = F.length ∧ s84 = .int .i64 j ∧ Hid (But [] W wr))
        case atStart => exact ⟨0, by omega, rfl, hB⟩
        case round =>
          obtain ⟨i, hi, rfl, hB2⟩ := hrel
          cases gk with
          | succ g =>
            have hlt2 : i < F.length := by omega
            obtain ⟨A, A', rfl, rfl, hc1, hc2, hcs⟩ := HFP.out (by omega)
            obtain ⟨⟨c0, c1, c2⟩, d0, d1, d2⟩ := hcs i hlt2
            replace c0 := hB2.out.cellAt c0 (by simp)
            replace c1 := hB2.out.cellAt c1 (by simp)
            replace c2 := hB2.out.cellAt c2 (by simp)
            replace d0 := hB2.out.cellAt d0 (by simp)
            replace d1 := hB2.out.cellAt d1 (by simp)
            replace d2 := hB2.out.cellAt d2 (by simp)
            have q1 := hB2.out.cellAt HQ.out.2.2.2 (by simp)
            unfold str at c0 c2 d0 d2
            obtain ⟨x0, hx0⟩ : ∃ x, (⟨(F[i]'hlt2).1.toArray⟩ : ByteArray) = x := ⟨_, rfl⟩
            obtain ⟨x1, hx1⟩ : ∃ x, (F[i]'hlt2).2.1 = x := ⟨_, rfl⟩
            obtain ⟨x2, hx2⟩ : ∃ x, (⟨(F[i]'hlt2).2.2.toArray⟩ : ByteArray) = x := ⟨_, rfl⟩
            rw [hx0] at c0 d0
            rw [hx1] at c1 d1
            rw [hx2] at c2 d2
            have hi1 : (i : Int) < (F.length : Int) := by omega
            have hb1 : But [] wr (wr.alloc (Obj.cells #[Value.string x0, Value.int IntKind.i64 x1, Value.string x2] 76)) := (But.refl [] wr).alloc _
            have e0 := hb1.cellAt d0 (by simp)
            have e1 := hb1.cellAt d1 (by simp)
            have e2 := hb1.cellAt d2 (by simp)
            have e3 := hb1.cellAt q1 (by simp)
            have e4 : (wr.alloc (Obj.cells #[Value.string x0, Value.int IntKind.i64 x1, Value.string x2] 76)).cell? ⟨wr.heap.size, 0, none⟩ = some (.string x0) := by simp [go_sem]
            have e5 : (wr.alloc (Obj.cells #[Value.string x0, Value.int IntKind.i64 x1, Value.string x2] 76)).cell? ⟨wr.heap.size, 1, none⟩ = some (.int .i64 x1) := by simp [go_sem]
            have e6 : (wr.alloc (Obj.cells #[Value.string x0, Value.int IntKind.i64 x1, Value.string x2] 76)).cell? ⟨wr.heap.size, 2, none⟩ = some (.string x2) := by simp [go_sem]
            clear hb1
            clear hcs hx0 hx1 hx2
            go_wp2_with fail
            go_quiet (fail)
            have HB1 : Hid (But [] W (World.drewN (wr.alloc (Obj.cells #[Value.string x0, Value.int IntKind.i64 x1, Value.string x2] 76)) nq)) := Lib.hid ((hB2.out.alloc _).drewN)
            go_wp2_with fail
            go_roundg g
            case measure => omega
            case rel => exact ⟨i + 1, by omega, by go_num, HB1⟩
          | zero =>
            have hge2 : ¬ (i : Int) < (F.length : Int) := by omega
            go_wp2_with fail
            go_ret
            exact ⟨rfl, Lib.hid (HQ.out.1.trans hB2.out)⟩
end Go.Proofs.YtlcbcgillekphaaGreatDoor.sam
namespace Go.Proofs.YtlcbcgillekphaaGreatDoor.sam
open Go.RowKit Mem rw ent
set_option linter.unusedVariables false
set_option linter.unusedSimpArgs false

theorem ents_len {w : World} {b : Nat} {v : Value} {l : List EnP} (h : Ents w b v l) : l.length ≤ 9223372036854775807 := by
  rcases Nat.eq_zero_or_pos l.length with e | e
  · omega
  · obtain ⟨g, cap, q1, q2, q3, q4, q5, q6⟩ := h.at_ e
    omega
/-- The ten cells of an entry of such a slice. -/
theorem ents_ten {w : World} {b : Nat} {v : Value} {l : List EnP} (h : Ents w b v l) (hn : 0 < l.length) : ∃ g cap, v = .slice (some ⟨g, 0, none⟩) l.length cap ∧ g < w.heap.size ∧ l.length ≤ cap ∧ cap ≤ 9223372036854775807 ∧
    ∀ (i : Nat) (hi : i < l.length), ∃ (nm tm : ByteArray) (ta fa : Option Addr) (tn tc fn fc : Nat) (ht fb : Bool) (ll k at_ : Nat),
      enC (l[i]'hi).E (l[i]'hi).tv (l[i]'hi).fv = [.string nm, .slice ta tn tc, .slice fa fn fc, .string tm, .bool ht, .bool fb, .int .i64 ll, .int .i64 k, .bool false, .int .i64 at_] ∧
      w.cell? ⟨g, i * 10, none⟩ = some (.string nm) ∧ w.cell? ⟨g, i * 10 + 1, none⟩ = some (.slice ta tn tc) ∧ w.cell? ⟨g, i * 10 + 2, none⟩ = some (.slice fa fn fc) ∧ w.cell? ⟨g, i * 10 + 3, none⟩ = some (.string tm) ∧ w.cell? ⟨g, i * 10 + 4, none⟩ = some (.bool ht) ∧
      w.cell? ⟨g, i * 10 + 5, none⟩ = some (.bool fb) ∧ w.cell? ⟨g, i * 10 + 6, none⟩ = some (.int .i64 ll) ∧ w.cell? ⟨g, i * 10 + 7, none⟩ = some (.int .i64 k) ∧ w.cell? ⟨g, i * 10 + 8, none⟩ = some (.bool false) ∧ w.cell? ⟨g, i * 10 + 9, none⟩ = some (.int .i64 at_) := by
  obtain ⟨g, cap, h1, h2, h3, h4, h5, h6⟩ := h.at_ hn
  refine ⟨g, cap, h1, h3, h4, h5, fun i hi => ?_⟩
  obtain ⟨nm, tm, ta, fa, tn, tc, fn, fc, ht, fb, ll, k, at_, e⟩ := enC_form (h.rows (l[i]'hi) (List.getElem_mem hi))
  have h7 := h6 i hi
  rw [e] at h7
  exact ⟨nm, tm, ta, fa, tn, tc, fn, fc, ht, fb, ll, k, at_, e, h7 0 (by decide), h7 1 (by decide), h7 2 (by decide), h7 3 (by decide), h7 4 (by decide), h7 5 (by decide), h7 6 (by decide), h7 7 (by decide), h7 8 (by decide), h7 9 (by decide)⟩
set_option maxRecDepth 100000 in
set_option maxHeartbeats 4000000 in
theorem same6 (l l' : List EnP) (he : l.map (·.E) = l'.map (·.E)) (v v' : Value) (w : World) (b b' : Nat) (h : Ents w b v l) (h' : Ents w b' v' l') :
    Calls Tryz.prog 6 #[v, v'] w fun e w' => e = .returned (.bool true) ∧ Hid (But [] w w') := by
  have hll : l.length = l'.length := by simpa using congrArg List.length he
  obtain ⟨ta, tc, e1⟩ := own_form h.own
  obtain ⟨ta', tc', e2⟩ := own_form h'.own
  have hn := ents_len h
  have hS : ∀ wq, But [] w wq → ∀ (i : Nat) (hi : i < l.length) (hi' : i < l'.length), Calls Tryz.prog 16 #[enV (l[i]'hi).E (l[i]'hi).tv (l[i]'hi).fv, enV (l'[i]'hi').E (l'[i]'hi').tv (l'[i]'hi').fv] wq fun e w' => e = .returned (.bool true) ∧ Hid (But [] wq w') := fun wq hb i hi hi' => by
    have e : (l[i]'hi).E = (l'[i]'hi').E := by
      have h1 : (l.map (·.E))[i]? = (l'.map (·.E))[i]? := by rw [he]
      simpa [hi, hi'] using h1
    have r1 := (h.rows (l[i]'hi) (List.getElem_mem hi)).but hb (by simp) (by simp)
    have r2 := (h'.rows (l'[i]'hi') (List.getElem_mem hi')).but hb (by simp) (by simp)
    rw [← e] at r2 ⊢
    exact same16 _ _ _ _ _ _ _ _ r1 r2
  have HS := Lib.hid hS
  have HR := Lib.hid (And.intro h h')
  have HE := Lib.hid (And.intro e1 e2)
  have HLL := Lib.hid hll
  rw [e1, e2]
  clear h h' hS e1 e2 he
  obtain ⟨n, hln⟩ : ∃ n, l.length = n := ⟨_, rfl⟩
  have hln' : l'.length = n := by omega
  rw [hln, hln']
  rw [hln] at hn
  have HL := Lib.hid (And.intro hln hln')
  clear hll hln hln'
  go_enter Tryz.func6, Tryz.ntmps6
  go_wp2_with fail
  go_loopg [14] n (fun g s14 wr => ∃ j : Nat, j + g = n ∧ s14 = .int .i64 j ∧ Hid (But [] w wr))
  case atStart => exact ⟨0, by omega, rfl, Lib.hid (But.refl _ _)⟩
  case round =>
    obtain ⟨j, hj, rfl, hB⟩ := hrel
    cases gk with
    | succ g =>
      have hlt1 : j < l.length := by rw [HL.out.1]; omega
      have hlt2 : j < l'.length := by rw [HL.out.2]; omega
      obtain ⟨A, cap, q1, q2, q3, q4, q5⟩ := ents_ten HR.out.1 (by omega)
      obtain ⟨A', cap', p1, p2, p3, p4, p5⟩ := ents_ten HR.out.2 (by omega)
      rw [HE.out.1] at q1
      rw [HE.out.2] at p1
      cases q1; cases p1
      obtain ⟨nm, tm, xa, fa, tn, xc, fn, fc, ht, fb, ll, k, at_, eC, c0, c1, c2, c3, c4, c5, c6, c7, c8, c9⟩ := q5 j hlt1
      obtain ⟨nm', tm', xa', fa', tn', xc', fn', fc', ht', fb', ll', k', at_', eC', d0, d1, d2, d3, d4, d5, d6, d7, d8, d9⟩ := p5 j hlt2
      replace c0 := hB.out.cellAt c0 (by simp)
      replace c1 := hB.out.cellAt c1 (by simp)
      replace c2 := hB.out.cellAt c2 (by simp)
      replace c3 := hB.out.cellAt c3 (by simp)
      replace c4 := hB.out.cellAt c4 (by simp)
      replace c5 := hB.out.cellAt c5 (by simp)
      replace c6 := hB.out.cellAt c6 (by simp)
      replace c7 := hB.out.cellAt c7 (by simp)
      replace c8 := hB.out.cellAt c8 (by simp)
      replace c9 := hB.out.cellAt c9 (by simp)
      have hb1 : But [] wr (wr.alloc (Obj.cells #[.string nm, .slice xa tn xc, .slice fa fn fc, .string tm, .bool ht, .bool fb, .int .i64 ll, .int .i64 k, .bool false, .int .i64 at_] 41)) := (But.refl [] wr).alloc _
      have HB0 := Lib.hid (hB.out.trans hb1)
      replace d0 := hb1.cellAt (hB.out.cellAt d0 (by simp)) (by simp)
      replace d1 := hb1.cellAt (hB.out.cellAt d1 (by simp)) (by simp)
      replace d2 := hb1.cellAt (hB.out.cellAt d2 (by simp)) (by simp)
      replace d3 := hb1.cellAt (hB.out.cellAt d3 (by simp)) (by simp)
      replace d4 := hb1.cellAt (hB.out.cellAt d4 (by simp)) (by simp)
      replace d5 := hb1.cellAt (hB.out.cellAt d5 (by simp)) (by simp)
      replace d6 := hb1.cellAt (hB.out.cellAt d6 (by simp)) (by simp)
      replace d7 := hb1.cellAt (hB.out.cellAt d7 (by simp)) (by simp)
      replace d8 := hb1.cellAt (hB.out.cellAt d8 (by simp)) (by simp)
      replace d9 := hb1.cellAt (hB.out.cellAt d9 (by simp)) (by simp)
      have hSj : ∀ wq, But [] w wq → Calls Tryz.prog 16 #[.agg #[.string nm, .slice xa tn xc, .slice fa fn fc, .string tm, .bool ht, .bool fb, .int .i64 ll, .int .i64 k, .bool false, .int .i64 at_], .agg #[.string nm', .slice xa' tn' xc', .slice fa' fn' fc', .string tm', .bool ht', .bool fb', .int .i64 ll', .int .i64 k', .bool false, .int .i64 at_']] wq fun e w' => e = .returned (.bool true) ∧ Hid (But [] wq w') := fun wq hb => by
        have h1 := HS.out wq hb j hlt1 hlt2
        unfold enV at h1
        rw [eC, eC'] at h1
        exact h1
      have HSJ := Lib.hid hSj
      have hi1 : (j : Int) < (n : Int) := by omega
      have hq3 : n ≤ tc := by have := HL.out.1; omega
      have hp3 : n ≤ tc' := by have := HL.out.2; omega
      clear hSj hb1 q5 p5 eC eC' hlt1 hlt2 q2 q3 q4 p2 p3 p4
      go_wp2_with fail
      refine region_tail 5 (by kernel_rfl) ?_
      simp only [List.take_succ_cons, List.take_zero, List.drop_succ_cons, List.drop_zero]
      repeat still_step
      refine wpStill_nil ?_
      go_wp2_with fail
      refine (HSJ.out _ (HB0.out.drew)).mono ?_
      rintro e w2 ⟨rfl, hB2⟩
      have HB3 := Lib.hid (HB0.out.drew.trans hB2.out)
      clear hB2
      go_wp2_with fail
      go_roundg g
      case measure => omega
      case rel => exact ⟨j + 1, by omega, by go_num, HB3⟩
    | zero =>
      have hge : ¬ (j : Int) < (n : Int) := by omega
      go_wp2_with fail
      go_ret
      exact ⟨rfl, hB⟩
end Go.Proofs.YtlcbcgillekphaaGreatDoor.sam
