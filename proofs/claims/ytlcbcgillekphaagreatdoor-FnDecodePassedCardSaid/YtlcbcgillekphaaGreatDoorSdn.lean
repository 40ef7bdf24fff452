/-
  Proved: the contract of the laws' lEntry.
  Conditions: a text of at most 4000 bytes; an entry starts.
-/
import Derived.Test.YtlcbcgillekphaaGreatDoorGh
namespace Go.Proofs.YtlcbcgillekphaaGreatDoor.sd
open Go.RowKit Mem rw ent
set_option linter.unusedVariables false
set_option linter.unusedSimpArgs false

section
variable {w0 w : World} {P : Nat} {s : ByteArray} {E : Nat} {cs : List Value} {tags : List (List UInt8 × List UInt8)} {fields : List (List UInt8 × Nat × List UInt8)} {tv fv : Value} {a p f : Nat}
theorem LS.pu (h : LS w0 P s E cs tags fields tv fv a p f w) (j : Nat) (v : Value) : LS w0 P s E (cs.set j v) tags fields tv fv a p f (w.setCell ⟨E, j, none⟩ v) := by
  obtain ⟨W, rfl, h1⟩ := h.put j v
  exact h1
theorem LS.dr (h : LS w0 P s E cs tags fields tv fv a p f w) : LS w0 P s E cs tags fields tv fv a p f w.drew := h.quiet ((But.refl [] w).drew)
theorem LS.tmp (h : LS w0 P s E cs tags fields tv fv a p f w) (u q : Array Value) (T U : TypeId) : LS w0 P s E cs tags fields tv fv a p f ((w.alloc (.cells u T)).alloc (.cells q U)) := h.quiet (((But.refl [] w).alloc _).alloc _)
theorem LS.t10 {u0 u1 u2 u3 u4 u5 u6 u7 u8 u9 : Value} (h : LS w0 P s E [u0, u1, u2, u3, u4, u5, u6, u7, u8, u9] tags fields tv fv a p f w) :
    (w.cell? ⟨E, 0, none⟩ = some u0 ∧ w.cell? ⟨E, 1, none⟩ = some u1 ∧ w.cell? ⟨E, 2, none⟩ = some u2 ∧ w.cell? ⟨E, 3, none⟩ = some u3 ∧ w.cell? ⟨E, 4, none⟩ = some u4 ∧ w.cell? ⟨E, 5, none⟩ = some u5 ∧ w.cell? ⟨E, 6, none⟩ = some u6 ∧ w.cell? ⟨E, 7, none⟩ = some u7 ∧ w.cell? ⟨E, 8, none⟩ = some u8 ∧ w.cell? ⟨E, 9, none⟩ = some u9) ∧
    w.frozen? ⟨E, 0, none⟩ = false ∧ w.frozen? ⟨E, 1, none⟩ = false ∧ w.frozen? ⟨E, 2, none⟩ = false ∧ w.frozen? ⟨E, 3, none⟩ = false ∧ w.frozen? ⟨E, 4, none⟩ = false ∧ w.frozen? ⟨E, 5, none⟩ = false ∧ w.frozen? ⟨E, 6, none⟩ = false ∧ w.frozen? ⟨E, 7, none⟩ = false ∧ w.frozen? ⟨E, 8, none⟩ = false ∧ w.frozen? ⟨E, 9, none⟩ = false :=
  ⟨⟨Rw.cell h.r 0, Rw.cell h.r 1, Rw.cell h.r 2, Rw.cell h.r 3, Rw.cell h.r 4, Rw.cell h.r 5, Rw.cell h.r 6, Rw.cell h.r 7, Rw.cell h.r 8, Rw.cell h.r 9⟩, Rw.fz h.r 0, Rw.fz h.r 1, Rw.fz h.r 2, Rw.fz h.r 3, Rw.fz h.r 4, Rw.fz h.r 5, Rw.fz h.r 6, Rw.fz h.r 7, Rw.fz h.r 8, Rw.fz h.r 9⟩
end
def LeOut (P : Nat) (s : ByteArray) (m : dm.M) (w : World) (e : Ending) (w' : World) : Prop :=
  ∃ (E : dm.En) (tv fv : Value), e = .returned (enV E tv fv) ∧ Hid (∃ a' p' f', dm.entryM s.data.toList m = (E, ⟨a', p', f'⟩) ∧ (p' = 5 ∨ p' = 4) ∧ a' ≤ s.size ∧ At w P s a' p' f' w' ∧ ERows w' w.heap.size E.tags E.fields tv fv)
section
variable {T o o3 : List UInt8} {m m1 m2 m3 m4 : dm.M} {tags : List (List UInt8 × List UInt8)} {fields : List (List UInt8 × Nat × List UInt8)} {l k : Nat}
theorem ent_1 (h1 : dm.nameM T m = (.some o, m1)) (h2 : dm.tagsM T (T.length + 1) m1 = (tags, none, m2)) (h3 : dm.fieldsM T (T.length + 1) m2 = (fields, none, m3)) (h4 : dm.timeM T m3 = (.none, m4)) : dm.entryM T m = ({ name := o, tags := tags, fields := fields }, m4) := by
  simp [dm.entryM, h1, h2, h3, h4]
theorem ent_2 (h1 : dm.nameM T m = (.some o, m1)) (h2 : dm.tagsM T (T.length + 1) m1 = (tags, none, m2)) (h3 : dm.fieldsM T (T.length + 1) m2 = (fields, none, m3)) (h4 : dm.timeM T m3 = (.some o3, m4)) : dm.entryM T m = ({ name := o, tags := tags, fields := fields, time := o3 }, m4) := by
  simp [dm.entryM, h1, h2, h3, h4]
theorem ent_3 (h1 : dm.nameM T m = (.some o, m1)) (h2 : dm.tagsM T (T.length + 1) m1 = (tags, none, m2)) (h3 : dm.fieldsM T (T.length + 1) m2 = (fields, none, m3)) (h4 : dm.timeM T m3 = (.fault l k, m4)) : dm.entryM T m = ({ name := o, tags := tags, fields := fields, fault := some (l, k), at_ := 3 }, m4) := by
  simp [dm.entryM, h1, h2, h3, h4]
theorem ent_4 (h1 : dm.nameM T m = (.some o, m1)) (h2 : dm.tagsM T (T.length + 1) m1 = (tags, none, m2)) (h3 : dm.fieldsM T (T.length + 1) m2 = (fields, some (l, k), m3)) : dm.entryM T m = ({ name := o, tags := tags, fields := fields, fault := some (l, k), at_ := 2 }, m3) := by
  simp [dm.entryM, h1, h2, h3]
theorem ent_5 (h1 : dm.nameM T m = (.some o, m1)) (h2 : dm.tagsM T (T.length + 1) m1 = (tags, some (l, k), m2)) : dm.entryM T m = ({ name := o, tags := tags, fault := some (l, k), at_ := 1 }, m2) := by
  simp [dm.entryM, h1, h2]
end
set_option maxRecDepth 100000 in
set_option maxHeartbeats 8000000 in
theorem entry19 (P : Nat) (s : ByteArray) (hs : s.size ≤ 4000) (a : Nat) (w : World) (h : SD w P s a 0 a) (ha : a ≤ s.size) :
    Calls Tryz.prog 19 #[.pointer (some ⟨P, 0, none⟩)] w (LeOut P s ⟨a, 0, a⟩ w) := by
  have HLL : Hid (s.data.toList.length = s.size) := Lib.hid (by simp)
  have hb1 : But [] w (w.alloc (.cells #[.string ⟨#[]⟩, .slice none 0 0, .slice none 0 0, .string ⟨#[]⟩, .bool false, .bool false, .int .i64 0, .int .i64 0, .bool false, .int .i64 0] 41)) := (But.refl [] w).alloc _
  have H1 : Hid (LS w P s w.heap.size [.string ⟨#[]⟩, .slice none 0 0, .slice none 0 0, .string ⟨#[]⟩, .bool false, .bool false, .int .i64 0, .int .i64 0, .bool false, .int .i64 0] [] [] (.slice none 0 0) (.slice none 0 0) a 0 a (w.alloc (.cells #[.string ⟨#[]⟩, .slice none 0 0, .slice none 0 0, .string ⟨#[]⟩, .bool false, .bool false, .int .i64 0, .int .i64 0, .bool false, .int .i64 0] 41))) := Lib.hid ⟨(At.refl h).quiet hb1, Rw.new w [.string ⟨#[]⟩, .slice none 0 0, .slice none 0 0, .string ⟨#[]⟩, .bool false, .bool false, .int .i64 0, .int .i64 0, .bool false, .int .i64 0] _, ERows.nil _ _, Rw.lt h, Nat.le_refl _⟩
  have HNM := Lib.hid (name36 P s hs a a _ H1.out.at_.sd ha (Nat.le_refl _))
  clear h hb1
  go_enter Tryz.func19, Tryz.ntmps19
  go_wp2_with fail
  refine HNM.out.mono ?_
  rintro e w1 hT
  clear HNM
  rcases hT with ⟨o, a1, p1, f1, hr, he, hA⟩ | ⟨l, k, rfl, hF⟩
  rotate_left
  · obtain ⟨a1, p1, f1, hr, hA⟩ := hF.out
    have HR := Lib.hid hr
    have HA := Lib.hid (H1.out.call hA)
    clear hF hr hA
    dsimp only
    obtain ⟨⟨k0_1, k1_1, k2_1, k3_1, k4_1, k5_1, k6_1, k7_1, k8_1, k9_1⟩, z0_1, z1_1, z2_1, z3_1, z4_1, z5_1, z6_1, z7_1, z8_1, z9_1⟩ := HA.out.t10
    go_upto_region 3 with fail
    have HE0 := Lib.hid (((((HA.out.pu 0 (.string ⟨#[]⟩)).pu 5 (.bool true)).pu 6 (.int .i64 (l : Int))).pu 7 (.int .i64 (k : Int))).pu 8 (.bool false))
    clear k0_1 z0_1 k1_1 z1_1 k2_1 z2_1 k3_1 z3_1 k4_1 z4_1 k5_1 z5_1 k6_1 z6_1 k7_1 z7_1 k8_1 z8_1 k9_1 z9_1
    revert HE0
    generalize World.setCell _ _ _ = W5
    intro HE0
    obtain ⟨⟨k0_77, k1_77, k2_77, k3_77, k4_77, k5_77, k6_77, k7_77, k8_77, k9_77⟩, z0_77, z1_77, z2_77, z3_77, z4_77, z5_77, z6_77, z7_77, z8_77, z9_77⟩ := HE0.out.t10
    go_wp2_with fail
    have HE := Lib.hid ((((((((((HE0.out.pu 0 (.string ⟨#[]⟩)).pu 1 (.slice none 0 0)).pu 2 (.slice none 0 0)).pu 3 (.string ⟨#[]⟩)).pu 4 (.bool false)).pu 5 (.bool true)).pu 6 (.int .i64 (l : Int))).pu 7 (.int .i64 (k : Int))).pu 8 (.bool false)).pu 9 (.int .i64 0))
    obtain ⟨⟨k0_99, k1_99, k2_99, k3_99, k4_99, k5_99, k6_99, k7_99, k8_99, k9_99⟩, z0_99, z1_99, z2_99, z3_99, z4_99, z5_99, z6_99, z7_99, z8_99, z9_99⟩ := HE.out.t10
    refine bodyPost_ret (v := .agg #[.string ⟨#[]⟩, .slice none 0 0, .slice none 0 0, .string ⟨#[]⟩, .bool false, .bool true, .int .i64 (l : Int), .int .i64 (k : Int), .bool false, .int .i64 0]) (by simp [results, Tryz.results19, go_sem, k0_99, k1_99, k2_99, k3_99, k4_99, k5_99, k6_99, k7_99, k8_99, k9_99]) rfl ?_
    exact ⟨{ fault := some (l, k) }, (.slice none 0 0), (.slice none 0 0), rfl, Lib.hid ⟨_, _, _, by simp [dm.entryM, HR.out], .inr (dm.name_flt (by simp) HR.out), by have h1 := dm.name_hi (by simpa using ha) HR.out; simpa using h1, HE.out.at_, HE.out.rows⟩⟩
  have hpt := dm.name_some hr
  simp only at hpt
  obtain ⟨rfl, hf1, hx1⟩ := hpt
  have hf1' := hf1.symm
  subst hf1'
  have HMEAS := Lib.hid hr
  have ha1 : a1 ≤ s.size := by have h1 := dm.name_hi (by simpa using ha) hr; simpa using h1
  unfold strB at he
  subst he
  have HA := Lib.hid (H1.out.call hA.out)
  clear hr hA
  dsimp only
  obtain ⟨⟨k0_1, k1_1, k2_1, k3_1, k4_1, k5_1, k6_1, k7_1, k8_1, k9_1⟩, z0_1, z1_1, z2_1, z3_1, z4_1, z5_1, z6_1, z7_1, z8_1, z9_1⟩ := HA.out.t10
  have HE0 : Hid (LS w P s w.heap.size [.string ⟨o.toArray⟩, .slice none 0 0, .slice none 0 0, .string ⟨#[]⟩, .bool false, .bool false, .int .i64 0, .int .i64 0, .bool false, .int .i64 0] ([] : List (List UInt8 × List UInt8)) [] (.slice none 0 0) (.slice none 0 0) a1 1 a _ ∧ ([] : List (List UInt8 × List UInt8)).length ≤ a1 ∧ a1 ≤ s.size ∧ a ≤ a1 ∧ ∃ fu, s.data.toList.length - a1 < fu ∧ dm.tagsM s.data.toList (s.data.toList.length + 1) ⟨a1, 1, a⟩ = (([] : List (List UInt8 × List UInt8)) ++ (dm.tagsM s.data.toList fu ⟨a1, 1, a⟩).1, (dm.tagsM s.data.toList fu ⟨a1, 1, a⟩).2)) := Lib.hid ⟨(((((HA.out.pu 0 (.string ⟨o.toArray⟩)).pu 5 (.bool false)).pu 6 (.int .i64 0)).pu 7 (.int .i64 0)).pu 8 (.bool false)), by simp, ha1, by omega, s.data.toList.length + 1, by omega, by simp⟩
  go_wp2_with fail
  go_loopg [] (s.data.toList.length - a1) (fun g wr => ∃ (x2 s2 y2 : Nat) (tags : List (List UInt8 × List UInt8)) (tv : Value), g = s.data.toList.length - x2 ∧ (s2 = 1 ∨ s2 = 2) ∧ Hid (LS w P s w.heap.size [.string ⟨o.toArray⟩, tv, .slice none 0 0, .string ⟨#[]⟩, .bool false, .bool false, .int .i64 0, .int .i64 0, .bool false, .int .i64 0] tags [] tv (.slice none 0 0) x2 s2 y2 wr ∧ tags.length ≤ x2 ∧ x2 ≤ s.size ∧ y2 ≤ x2 ∧ ∃ fu, s.data.toList.length - x2 < fu ∧ dm.tagsM s.data.toList (s.data.toList.length + 1) ⟨a1, 1, a⟩ = (tags ++ (dm.tagsM s.data.toList fu ⟨x2, s2, y2⟩).1, (dm.tagsM s.data.toList fu ⟨x2, s2, y2⟩).2)))
  case atStart => exact ⟨a1, 1, a, [], (.slice none 0 0), rfl, .inl rfl, HE0⟩
  case round =>
    obtain ⟨x2, s2, y2, tags, tv, hg, hs2, hI⟩ := hrel
    have HTG := Lib.hid (tagC P s hs x2 s2 y2 hs2 wr hI.out.1.at_.sd hI.out.2.2.1 hI.out.2.2.2.1)
    clear HE0
    clear k0_1 z0_1 k1_1 z1_1 k2_1 z2_1 k3_1 z3_1 k4_1 z4_1 k5_1 z5_1 k6_1 z6_1 k7_1 z7_1 k8_1 z8_1 k9_1 z9_1
    go_wp2_with fail
    refine HTG.out.mono ?_
    rintro e w2 hT
    clear HTG
    rcases hT with ⟨x3, s3, y3, hr, rfl, hA⟩ | ⟨o1, o2, x3, s3, y3, hr, he, hA⟩ | ⟨l, k, rfl, hF⟩
    · have htn := dm.tag_none (by simp only; omega) hr
      have hs3 : s3 = 2 := by
        rcases htn.2.2.2 with e | e
        · exact e
        · have h2 := htn.1
          simp only [dm.M.mk.injEq] at e h2
          omega
      subst hs3
      have hx3 : x3 ≤ s.size := by have h1 := dm.tag_hi (by have := hI.out.2.2.1; simpa using this) hr; simpa using h1
      have hy3 : y3 ≤ x3 := by have h1 := htn.2.1; have h2 := htn.2.2.1; have h3 := hI.out.2.2.2.1; simp only at h1 h2; omega
      obtain ⟨fl, hfl1, hfl2⟩ := hI.out.2.2.2.2
      have HTS : Hid (dm.tagsM s.data.toList (s.data.toList.length + 1) ⟨a1, 1, a⟩ = (tags, none, ⟨x3, 2, y3⟩)) := Lib.hid (by
        rw [hfl2]
        obtain ⟨f1, rfl⟩ : ∃ f1, fl = f1 + 1 := ⟨fl - 1, by omega⟩
        rw [dm.tagsM, hr]
        simp)
      have HFA := Lib.hid (hI.out.1.call hA.out)
      clear hr hA htn hfl1 hfl2 hI hs2 hg
      dsimp only
      have HE0 : Hid (LS w P s w.heap.size [.string ⟨o.toArray⟩, tv, .slice none 0 0, .string ⟨#[]⟩, .bool false, .bool false, .int .i64 0, .int .i64 0, .bool false, .int .i64 0] tags ([] : List (List UInt8 × Nat × List UInt8)) tv (.slice none 0 0) x3 2 y3 ((w2.alloc (.cells #[.string ⟨#[]⟩, .string ⟨#[]⟩] 71)).alloc (.cells #[.bool false, .int .i64 0, .int .i64 0, .bool false] 39)) ∧ ([] : List (List UInt8 × Nat × List UInt8)).length ≤ x3 ∧ x3 ≤ s.size ∧ y3 ≤ x3 ∧ ∃ fu, s.data.toList.length - x3 < fu ∧ dm.fieldsM s.data.toList (s.data.toList.length + 1) ⟨x3, 2, y3⟩ = (([] : List (List UInt8 × Nat × List UInt8)) ++ (dm.fieldsM s.data.toList fu ⟨x3, 2, y3⟩).1, (dm.fieldsM s.data.toList fu ⟨x3, 2, y3⟩).2)) := Lib.hid ⟨HFA.out.tmp _ _ _ _, by simp, hx3, hy3, s.data.toList.length + 1, by omega, by simp⟩
      go_wp2_with fail
      go_loopg [] (s.data.toList.length - x3) (fun g wr => ∃ (x2 s2 y2 : Nat) (fields : List (List UInt8 × Nat × List UInt8)) (fv : Value), g = s.data.toList.length - x2 ∧ (s2 = 2 ∨ s2 = 3 ∨ s2 = 5) ∧ Hid (LS w P s w.heap.size [.string ⟨o.toArray⟩, tv, fv, .string ⟨#[]⟩, .bool false, .bool false, .int .i64 0, .int .i64 0, .bool false, .int .i64 0] tags fields tv fv x2 s2 y2 wr ∧ fields.length ≤ x2 ∧ x2 ≤ s.size ∧ y2 ≤ x2 ∧ ∃ fu, s.data.toList.length - x2 < fu ∧ dm.fieldsM s.data.toList (s.data.toList.length + 1) ⟨x3, 2, y3⟩ = (fields ++ (dm.fieldsM s.data.toList fu ⟨x2, s2, y2⟩).1, (dm.fieldsM s.data.toList fu ⟨x2, s2, y2⟩).2)))
      case atStart => exact ⟨x3, 2, y3, [], (.slice none 0 0), rfl, .inl rfl, HE0⟩
      case round =>
        obtain ⟨x4, s4, y4, fields, fv, hg, hs4, hI⟩ := hrel
        have HTG := Lib.hid (fieldC P s hs x4 s4 y4 hs4 wr hI.out.1.at_.sd hI.out.2.2.1 hI.out.2.2.2.1)
        clear HE0
        go_wp2_with fail
        refine HTG.out.mono ?_
        rintro e w3 hT
        clear HTG
        rcases hT with ⟨x5, s5, y5, hr, rfl, hA⟩ | ⟨o1, kd, o2, x5, s5, y5, hr, he, hA⟩ | ⟨l, k, rfl, hF⟩
        · have htn := dm.field_none hr
          simp only [dm.M.mk.injEq] at htn
          obtain ⟨hn2, rfl, rfl, rfl⟩ := htn
          have hx5 : x5 ≤ s.size := hI.out.2.2.1
          have hy5 : y5 ≤ x5 := hI.out.2.2.2.1
          obtain ⟨fl, hfl1, hfl2⟩ := hI.out.2.2.2.2
          have HFS : Hid (dm.fieldsM s.data.toList (s.data.toList.length + 1) ⟨x3, 2, y3⟩ = (fields, none, ⟨x5, s5, y5⟩)) := Lib.hid (by
            rw [hfl2]
            obtain ⟨f1, rfl⟩ : ∃ f1, fl = f1 + 1 := ⟨fl - 1, by omega⟩
            rw [dm.fieldsM, hr]
            simp)
          have hs5 : s5 = 3 ∨ s5 = 5 := by omega
          have HFA := Lib.hid (hI.out.1.call hA.out)
          clear hr hA hfl1 hfl2 hI hs4 hg hn2
          dsimp only
          have HFT := Lib.hid (HFA.out.tmp #[.string ⟨#[]⟩, .int .i64 0, .string ⟨#[]⟩] #[.bool false, .int .i64 0, .int .i64 0, .bool false] 76 39)
          have HTM := Lib.hid (timeC P s hs x5 s5 y5 hs5 _ HFT.out.at_.sd hx5 hy5)
          go_wp2_with fail
          refine HTM.out.mono ?_
          rintro e w4 hT
          clear HTM
          rcases hT with ⟨x6, s6, y6, hr, rfl, hA⟩ | ⟨o3, x6, s6, y6, hr, he, hA⟩ | ⟨l, k, rfl, hF⟩
          · have HR := Lib.hid hr
            have HA := Lib.hid (HFT.out.call hA.out)
            clear hr hA HFT HFA
            dsimp only
            obtain ⟨ta, tcp, rfl⟩ := own_form HA.out.rows.tags
            obtain ⟨fa, fcp, rfl⟩ := own_form HA.out.rows.fields
            obtain ⟨⟨k0_5, k1_5, k2_5, k3_5, k4_5, k5_5, k6_5, k7_5, k8_5, k9_5⟩, z0_5, z1_5, z2_5, z3_5, z4_5, z5_5, z6_5, z7_5, z8_5, z9_5⟩ := HA.out.t10
            go_upto_region 19 with fail
            have HE0 := Lib.hid ((((((HA.out.pu 3 (.string ⟨#[]⟩)).pu 4 (.bool false)).pu 5 (.bool false)).pu 6 (.int .i64 0)).pu 7 (.int .i64 0)).pu 8 (.bool false))
            clear k0_5 z0_5 k1_5 z1_5 k2_5 z2_5 k3_5 z3_5 k4_5 z4_5 k5_5 z5_5 k6_5 z6_5 k7_5 z7_5 k8_5 z8_5 k9_5 z9_5
            revert HE0
            generalize World.setCell _ _ _ = W5
            intro HE0
            obtain ⟨⟨k0_77, k1_77, k2_77, k3_77, k4_77, k5_77, k6_77, k7_77, k8_77, k9_77⟩, z0_77, z1_77, z2_77, z3_77, z4_77, z5_77, z6_77, z7_77, z8_77, z9_77⟩ := HE0.out.t10
            go_wp2_with fail
            have HE := Lib.hid ((((((((((HE0.out.pu 0 (.string ⟨o.toArray⟩)).pu 1 (.slice ta tags.length tcp)).pu 2 (.slice fa fields.length fcp)).pu 3 (.string ⟨#[]⟩)).pu 4 (.bool false)).pu 5 (.bool false)).pu 6 (.int .i64 0)).pu 7 (.int .i64 0)).pu 8 (.bool false)).pu 9 (.int .i64 0))
            obtain ⟨⟨k0_99, k1_99, k2_99, k3_99, k4_99, k5_99, k6_99, k7_99, k8_99, k9_99⟩, z0_99, z1_99, z2_99, z3_99, z4_99, z5_99, z6_99, z7_99, z8_99, z9_99⟩ := HE.out.t10
            refine bodyPost_ret (v := .agg #[.string ⟨o.toArray⟩, .slice ta tags.length tcp, .slice fa fields.length fcp, .string ⟨#[]⟩, .bool false, .bool false, .int .i64 0, .int .i64 0, .bool false, .int .i64 0]) (by simp [results, Tryz.results19, go_sem, k0_99, k1_99, k2_99, k3_99, k4_99, k5_99, k6_99, k7_99, k8_99, k9_99]) rfl ?_
            exact ⟨{ name := o, tags := tags, fields := fields }, (.slice ta tags.length tcp), (.slice fa fields.length fcp), rfl, Lib.hid ⟨_, _, _, ent_1 HMEAS.out HTS.out HFS.out HR.out, by have h1 := dm.time_none HR.out; simp only [dm.M.mk.injEq] at h1; omega, by have h1 := dm.time_hi (by simpa using hx5) HR.out; simpa using h1, HE.out.at_, HE.out.rows⟩⟩
          · unfold strB at he
            subst he
            have HR := Lib.hid hr
            have HA := Lib.hid (HFT.out.call hA.out)
            clear hr hA HFT HFA
            dsimp only
            obtain ⟨ta, tcp, rfl⟩ := own_form HA.out.rows.tags
            obtain ⟨fa, fcp, rfl⟩ := own_form HA.out.rows.fields
            obtain ⟨⟨k0_5, k1_5, k2_5, k3_5, k4_5, k5_5, k6_5, k7_5, k8_5, k9_5⟩, z0_5, z1_5, z2_5, z3_5, z4_5, z5_5, z6_5, z7_5, z8_5, z9_5⟩ := HA.out.t10
            go_upto_region 19 with fail
            have HE0 := Lib.hid ((((((HA.out.pu 3 (.string ⟨o3.toArray⟩)).pu 4 (.bool (!o3.isEmpty))).pu 5 (.bool false)).pu 6 (.int .i64 0)).pu 7 (.int .i64 0)).pu 8 (.bool false))
            clear k0_5 z0_5 k1_5 z1_5 k2_5 z2_5 k3_5 z3_5 k4_5 z4_5 k5_5 z5_5 k6_5 z6_5 k7_5 z7_5 k8_5 z8_5 k9_5 z9_5
            revert HE0
            generalize World.setCell _ _ _ = W5
            intro HE0
            obtain ⟨⟨k0_77, k1_77, k2_77, k3_77, k4_77, k5_77, k6_77, k7_77, k8_77, k9_77⟩, z0_77, z1_77, z2_77, z3_77, z4_77, z5_77, z6_77, z7_77, z8_77, z9_77⟩ := HE0.out.t10
            go_wp2_with fail
            have HE := Lib.hid ((((((((((HE0.out.pu 0 (.string ⟨o.toArray⟩)).pu 1 (.slice ta tags.length tcp)).pu 2 (.slice fa fields.length fcp)).pu 3 (.string ⟨o3.toArray⟩)).pu 4 (.bool (!o3.isEmpty))).pu 5 (.bool false)).pu 6 (.int .i64 0)).pu 7 (.int .i64 0)).pu 8 (.bool false)).pu 9 (.int .i64 0))
            obtain ⟨⟨k0_99, k1_99, k2_99, k3_99, k4_99, k5_99, k6_99, k7_99, k8_99, k9_99⟩, z0_99, z1_99, z2_99, z3_99, z4_99, z5_99, z6_99, z7_99, z8_99, z9_99⟩ := HE.out.t10
            refine bodyPost_ret (v := .agg #[.string ⟨o.toArray⟩, .slice ta tags.length tcp, .slice fa fields.length fcp, .string ⟨o3.toArray⟩, .bool (!o3.isEmpty), .bool false, .int .i64 0, .int .i64 0, .bool false, .int .i64 0]) (by simp [results, Tryz.results19, go_sem, k0_99, k1_99, k2_99, k3_99, k4_99, k5_99, k6_99, k7_99, k8_99, k9_99]) rfl ?_
            exact ⟨{ name := o, tags := tags, fields := fields, time := o3 }, (.slice ta tags.length tcp), (.slice fa fields.length fcp), rfl, Lib.hid ⟨_, _, _, ent_2 HMEAS.out HTS.out HFS.out HR.out, .inl (dm.time_some HR.out), by have h1 := dm.time_hi (by simpa using hx5) HR.out; simpa using h1, HE.out.at_, HE.out.rows⟩⟩
          · obtain ⟨x6, s6, y6, hr, hA⟩ := hF.out
            clear hF
            have HR := Lib.hid hr
            have HA := Lib.hid (HFT.out.call hA)
            clear hr hA HFT HFA
            dsimp only
            obtain ⟨ta, tcp, rfl⟩ := own_form HA.out.rows.tags
            obtain ⟨fa, fcp, rfl⟩ := own_form HA.out.rows.fields
            obtain ⟨⟨k0_5, k1_5, k2_5, k3_5, k4_5, k5_5, k6_5, k7_5, k8_5, k9_5⟩, z0_5, z1_5, z2_5, z3_5, z4_5, z5_5, z6_5, z7_5, z8_5, z9_5⟩ := HA.out.t10
            go_upto_region 19 with fail
            have HE0 := Lib.hid (((((((HA.out.pu 3 (.string ⟨#[]⟩)).pu 4 (.bool false)).pu 5 (.bool true)).pu 6 (.int .i64 (l : Int))).pu 7 (.int .i64 (k : Int))).pu 8 (.bool false)).pu 9 (.int .i64 3))
            clear k0_5 z0_5 k1_5 z1_5 k2_5 z2_5 k3_5 z3_5 k4_5 z4_5 k5_5 z5_5 k6_5 z6_5 k7_5 z7_5 k8_5 z8_5 k9_5 z9_5
            revert HE0
            generalize World.setCell _ _ _ = W5
            intro HE0
            obtain ⟨⟨k0_77, k1_77, k2_77, k3_77, k4_77, k5_77, k6_77, k7_77, k8_77, k9_77⟩, z0_77, z1_77, z2_77, z3_77, z4_77, z5_77, z6_77, z7_77, z8_77, z9_77⟩ := HE0.out.t10
            go_wp2_with fail
            have HE := Lib.hid ((((((((((HE0.out.pu 0 (.string ⟨o.toArray⟩)).pu 1 (.slice ta tags.length tcp)).pu 2 (.slice fa fields.length fcp)).pu 3 (.string ⟨#[]⟩)).pu 4 (.bool false)).pu 5 (.bool true)).pu 6 (.int .i64 (l : Int))).pu 7 (.int .i64 (k : Int))).pu 8 (.bool false)).pu 9 (.int .i64 3))
            obtain ⟨⟨k0_99, k1_99, k2_99, k3_99, k4_99, k5_99, k6_99, k7_99, k8_99, k9_99⟩, z0_99, z1_99, z2_99, z3_99, z4_99, z5_99, z6_99, z7_99, z8_99, z9_99⟩ := HE.out.t10
            refine bodyPost_ret (v := .agg #[.string ⟨o.toArray⟩, .slice ta tags.length tcp, .slice fa fields.length fcp, .string ⟨#[]⟩, .bool false, .bool true, .int .i64 (l : Int), .int .i64 (k : Int), .bool false, .int .i64 3]) (by simp [results, Tryz.results19, go_sem, k0_99, k1_99, k2_99, k3_99, k4_99, k5_99, k6_99, k7_99, k8_99, k9_99]) rfl ?_
            exact ⟨{ name := o, tags := tags, fields := fields, fault := some (l, k), at_ := 3 }, (.slice ta tags.length tcp), (.slice fa fields.length fcp), rfl, Lib.hid ⟨_, _, _, ent_3 HMEAS.out HTS.out HFS.out HR.out, dm.time_flt HR.out, by have h1 := dm.time_hi (by simpa using hx5) HR.out; simpa using h1, HE.out.at_, HE.out.rows⟩⟩
        · have hts := dm.field_some hr
          have hkd := dm.field_kind hr
          simp only at hkd
          have hkd1 : (kd : Int) ≤ 5 := by omega
          have hkd0 : (0 : Int) ≤ (kd : Int) := by omega
          clear hkd
          simp only at hts
          unfold strB at he
          subst he
          have hx' : x5 ≤ s.size := by have h1 := dm.field_hi (by have := hI.out.2.2.1; simpa using this) hr; simpa using h1
          have HFA := Lib.hid (hI.out.1.call hA.out)
          clear hA
          dsimp only
          have HFT := Lib.hid (HFA.out.tmp #[.string ⟨o1.toArray⟩, .int .i64 (kd : Int), .string ⟨o2.toArray⟩] #[.bool false, .int .i64 0, .int .i64 0, .bool false] 76 39)
          obtain ⟨g', cap, w9, hrun, hrows, hbS, hgg⟩ := HFT.out.rows.field (by have := hI.out.2.1; have := hI.out.2.2.1; omega) HFT.out.at_.but.size o1 kd o2 37
          unfold str at hrun
          simp only [alloc_size] at hrun
          have HRUN := Lib.hid hrun
          clear hrun
          have hE2 := HFT.out.grow hrows (.inr rfl) hbS
          have HE2 := Lib.hid hE2
          obtain ⟨fl, hfl1, hfl2⟩ := hI.out.2.2.2.2
          have hlt5 : x4 < x5 := hts.1
          have HREL : Hid (LS w P s w.heap.size [.string ⟨o.toArray⟩, tv, .slice (some ⟨g', 0, none⟩) (fields.length + 1) cap, .string ⟨#[]⟩, .bool false, .bool false, .int .i64 0, .int .i64 0, .bool false, .int .i64 0] tags (fields ++ [(o1, kd, o2)]) tv (.slice (some ⟨g', 0, none⟩) (fields.length + 1) cap) x5 s5 y5 (w9.setCell ⟨w.heap.size, 2, none⟩ (.slice (some ⟨g', 0, none⟩) (fields.length + 1) cap)) ∧ (fields ++ [(o1, kd, o2)]).length ≤ x5 ∧ x5 ≤ s.size ∧ y5 ≤ x5 ∧ ∃ fu, s.data.toList.length - x5 < fu ∧ dm.fieldsM s.data.toList (s.data.toList.length + 1) ⟨x3, 2, y3⟩ = ((fields ++ [(o1, kd, o2)]) ++ (dm.fieldsM s.data.toList fu ⟨x5, s5, y5⟩).1, (dm.fieldsM s.data.toList fu ⟨x5, s5, y5⟩).2)) := Lib.hid (by
            refine ⟨hE2.pu 2 (.slice (some ⟨g', 0, none⟩) (fields.length + 1) cap), by have := hI.out.2.1; simp; omega, hx', by have h1 := hts.2.2; have h2 := hI.out.2.2.2.1; omega, fl - 1, by have := HLL.out; omega, ?_⟩
            rw [hfl2]
            obtain ⟨f1, rfl⟩ : ∃ f1, fl = f1 + 1 := ⟨fl - 1, by omega⟩
            rw [dm.fieldsM, hr]
            simp)
          have HS3 := Lib.hid hts.2.1
          have hms : s.data.toList.length - x5 < gk := by have := HLL.out; omega
          clear hr hts hE2 hrows hbS hgg hfl1 hfl2 hI hg
          obtain ⟨⟨k0_6, k1_6, k2_6, k3_6, k4_6, k5_6, k6_6, k7_6, k8_6, k9_6⟩, z0_6, z1_6, z2_6, z3_6, z4_6, z5_6, z6_6, z7_6, z8_6, z9_6⟩ := HFT.out.t10
          clear k0_6 k1_6 k3_6 k4_6 k5_6 k6_6 k7_6 k8_6 k9_6 z0_6 z1_6 z3_6 z4_6 z5_6 z6_6 z7_6 z8_6 z9_6
          obtain ⟨⟨k0_7, k1_7, k2_7, k3_7, k4_7, k5_7, k6_7, k7_7, k8_7, k9_7⟩, z0_7, z1_7, z2_7, z3_7, z4_7, z5_7, z6_7, z7_7, z8_7, z9_7⟩ := HE2.out.t10
          clear k0_7 k1_7 k3_7 k4_7 k5_7 k6_7 k7_7 k8_7 k9_7 z0_7 z1_7 z3_7 z4_7 z5_7 z6_7 z7_7 z8_7 z9_7
          go_wp2_with (at_builtin; refine app_step rfl _ _ _ _ rfl _ _ _ rfl rfl HRUN.out ?_)
          go_roundg (s.data.toList.length - x5)
          case measure => exact hms
          case rel => exact ⟨x5, s5, y5, fields ++ [(o1, kd, o2)], _, rfl, HS3.out, HREL⟩
        · obtain ⟨x5, s5, y5, hr, hA⟩ := hF.out
          have HR := Lib.hid hr
          have HFA := Lib.hid (hI.out.1.call hA)
          obtain ⟨fl, hfl1, hfl2⟩ := hI.out.2.2.2.2
          have HTX : Hid (dm.fieldsM s.data.toList (s.data.toList.length + 1) ⟨x3, 2, y3⟩ = (fields, some (l, k), ⟨x5, s5, y5⟩)) := Lib.hid (by
            rw [hfl2]
            obtain ⟨f1, rfl⟩ : ∃ f1, fl = f1 + 1 := ⟨fl - 1, by omega⟩
            rw [dm.fieldsM, hr]
            simp)
          have hx5 : x5 ≤ s.size := by have h1 := dm.field_hi (by have := hI.out.2.2.1; simpa using this) hr; simpa using h1
          clear hfl1 hfl2 hr hA hF hI hg
          dsimp only
          obtain ⟨ta, tcp, rfl⟩ := own_form HFA.out.rows.tags
          obtain ⟨fa, fcp, rfl⟩ := own_form HFA.out.rows.fields
          have HFT := Lib.hid (HFA.out.tmp #[.string ⟨#[]⟩, .int .i64 0, .string ⟨#[]⟩] #[.bool true, .int .i64 (l : Int), .int .i64 (k : Int), .bool false] 76 39)
          obtain ⟨⟨k0_6, k1_6, k2_6, k3_6, k4_6, k5_6, k6_6, k7_6, k8_6, k9_6⟩, z0_6, z1_6, z2_6, z3_6, z4_6, z5_6, z6_6, z7_6, z8_6, z9_6⟩ := HFT.out.t10
          go_wp2_with fail
          go_region
          have HE0 := Lib.hid (((((HFT.out.pu 9 (.int .i64 2)).pu 5 (.bool true)).pu 6 (.int .i64 (l : Int))).pu 7 (.int .i64 (k : Int))).pu 8 (.bool false)).dr
          clear k0_6 z0_6 k1_6 z1_6 k2_6 z2_6 k3_6 z3_6 k4_6 z4_6 k5_6 z5_6 k6_6 z6_6 k7_6 z7_6 k8_6 z8_6 k9_6 z9_6
          revert HE0
          generalize World.drew _ = W5
          intro HE0
          obtain ⟨⟨k0_77, k1_77, k2_77, k3_77, k4_77, k5_77, k6_77, k7_77, k8_77, k9_77⟩, z0_77, z1_77, z2_77, z3_77, z4_77, z5_77, z6_77, z7_77, z8_77, z9_77⟩ := HE0.out.t10
          go_wp2_with fail
          have HE := Lib.hid ((((((((((HE0.out.pu 0 (.string ⟨o.toArray⟩)).pu 1 (.slice ta tags.length tcp)).pu 2 (.slice fa fields.length fcp)).pu 3 (.string ⟨#[]⟩)).pu 4 (.bool false)).pu 5 (.bool true)).pu 6 (.int .i64 (l : Int))).pu 7 (.int .i64 (k : Int))).pu 8 (.bool false)).pu 9 (.int .i64 2))
          obtain ⟨⟨k0_99, k1_99, k2_99, k3_99, k4_99, k5_99, k6_99, k7_99, k8_99, k9_99⟩, z0_99, z1_99, z2_99, z3_99, z4_99, z5_99, z6_99, z7_99, z8_99, z9_99⟩ := HE.out.t10
          refine bodyPost_ret (v := .agg #[.string ⟨o.toArray⟩, .slice ta tags.length tcp, .slice fa fields.length fcp, .string ⟨#[]⟩, .bool false, .bool true, .int .i64 (l : Int), .int .i64 (k : Int), .bool false, .int .i64 2]) (by simp [results, Tryz.results19, go_sem, k0_99, k1_99, k2_99, k3_99, k4_99, k5_99, k6_99, k7_99, k8_99, k9_99]) rfl ?_
          exact ⟨{ name := o, tags := tags, fields := fields, fault := some (l, k), at_ := 2 }, (.slice ta tags.length tcp), (.slice fa fields.length fcp), rfl, Lib.hid ⟨_, _, _, ent_4 HMEAS.out HTS.out HTX.out, .inr (dm.field_flt HR.out), hx5, HE.out.at_, HE.out.rows⟩⟩
    · have hts := dm.tag_some hr
      simp only at hts
      unfold strB at he
      subst he
      have hx' : x3 ≤ s.size := by have h1 := dm.tag_hi (by have := hI.out.2.2.1; simpa using this) hr; simpa using h1
      have HFA := Lib.hid (hI.out.1.call hA.out)
      clear hA
      dsimp only
      have HFT := Lib.hid (HFA.out.tmp #[.string ⟨o1.toArray⟩, .string ⟨o2.toArray⟩] #[.bool false, .int .i64 0, .int .i64 0, .bool false] 71 39)
      obtain ⟨g', cap, w9, hrun, hrows, hbS, hgg⟩ := HFT.out.rows.tag (by have := hI.out.2.1; have := hI.out.2.2.1; omega) HFT.out.at_.but.size o1 o2 36
      unfold str at hrun
      simp only [alloc_size] at hrun
      have HRUN := Lib.hid hrun
      clear hrun
      have hE2 := HFT.out.grow hrows (.inl rfl) hbS
      have HE2 := Lib.hid hE2
      obtain ⟨fl, hfl1, hfl2⟩ := hI.out.2.2.2.2
      have hlt5 : x2 < x3 := hts.1
      have HREL : Hid (LS w P s w.heap.size [.string ⟨o.toArray⟩, .slice (some ⟨g', 0, none⟩) (tags.length + 1) cap, .slice none 0 0, .string ⟨#[]⟩, .bool false, .bool false, .int .i64 0, .int .i64 0, .bool false, .int .i64 0] (tags ++ [(o1, o2)]) [] (.slice (some ⟨g', 0, none⟩) (tags.length + 1) cap) (.slice none 0 0) x3 s3 y3 (w9.setCell ⟨w.heap.size, 1, none⟩ (.slice (some ⟨g', 0, none⟩) (tags.length + 1) cap)) ∧ (tags ++ [(o1, o2)]).length ≤ x3 ∧ x3 ≤ s.size ∧ y3 ≤ x3 ∧ ∃ fu, s.data.toList.length - x3 < fu ∧ dm.tagsM s.data.toList (s.data.toList.length + 1) ⟨a1, 1, a⟩ = ((tags ++ [(o1, o2)]) ++ (dm.tagsM s.data.toList fu ⟨x3, s3, y3⟩).1, (dm.tagsM s.data.toList fu ⟨x3, s3, y3⟩).2)) := Lib.hid (by
        refine ⟨hE2.pu 1 (.slice (some ⟨g', 0, none⟩) (tags.length + 1) cap), by have := hI.out.2.1; simp; omega, hx', by have h1 := hts.2.2; have h2 := hI.out.2.2.2.1; omega, fl - 1, by have := HLL.out; omega, ?_⟩
        rw [hfl2]
        obtain ⟨f1, rfl⟩ : ∃ f1, fl = f1 + 1 := ⟨fl - 1, by omega⟩
        rw [dm.tagsM, hr]
        simp)
      have HS3 := Lib.hid hts.2.1
      have hms : s.data.toList.length - x3 < gk := by have := HLL.out; omega
      clear hr hts hE2 hrows hbS hgg hfl1 hfl2 hI hg
      obtain ⟨⟨k0_6, k1_6, k2_6, k3_6, k4_6, k5_6, k6_6, k7_6, k8_6, k9_6⟩, z0_6, z1_6, z2_6, z3_6, z4_6, z5_6, z6_6, z7_6, z8_6, z9_6⟩ := HFT.out.t10
      clear k0_6 k2_6 k3_6 k4_6 k5_6 k6_6 k7_6 k8_6 k9_6 z0_6 z2_6 z3_6 z4_6 z5_6 z6_6 z7_6 z8_6 z9_6
      obtain ⟨⟨k0_7, k1_7, k2_7, k3_7, k4_7, k5_7, k6_7, k7_7, k8_7, k9_7⟩, z0_7, z1_7, z2_7, z3_7, z4_7, z5_7, z6_7, z7_7, z8_7, z9_7⟩ := HE2.out.t10
      clear k0_7 k2_7 k3_7 k4_7 k5_7 k6_7 k7_7 k8_7 k9_7 z0_7 z2_7 z3_7 z4_7 z5_7 z6_7 z7_7 z8_7 z9_7
      go_wp2_with (at_builtin; refine app_step rfl _ _ _ _ rfl _ _ _ rfl rfl HRUN.out ?_)
      go_roundg (s.data.toList.length - x3)
      case measure => exact hms
      case rel => exact ⟨x3, s3, y3, tags ++ [(o1, o2)], _, rfl, HS3.out, HREL⟩
    · obtain ⟨x5, s5, y5, hr, hA⟩ := hF.out
      have HR := Lib.hid hr
      have HFA := Lib.hid (hI.out.1.call hA)
      obtain ⟨fl, hfl1, hfl2⟩ := hI.out.2.2.2.2
      have HTX : Hid (dm.tagsM s.data.toList (s.data.toList.length + 1) ⟨a1, 1, a⟩ = (tags, some (l, k), ⟨x5, s5, y5⟩)) := Lib.hid (by
        rw [hfl2]
        obtain ⟨f1, rfl⟩ : ∃ f1, fl = f1 + 1 := ⟨fl - 1, by omega⟩
        rw [dm.tagsM, hr]
        simp)
      have hx5 : x5 ≤ s.size := by have h1 := dm.tag_hi (by have := hI.out.2.2.1; simpa using this) hr; simpa using h1
      clear hfl1 hfl2 hr hA hF hI hg
      dsimp only
      obtain ⟨ta, tcp, rfl⟩ := own_form HFA.out.rows.tags
      have HFT := Lib.hid (HFA.out.tmp #[.string ⟨#[]⟩, .string ⟨#[]⟩] #[.bool true, .int .i64 (l : Int), .int .i64 (k : Int), .bool false] 71 39)
      obtain ⟨⟨k0_6, k1_6, k2_6, k3_6, k4_6, k5_6, k6_6, k7_6, k8_6, k9_6⟩, z0_6, z1_6, z2_6, z3_6, z4_6, z5_6, z6_6, z7_6, z8_6, z9_6⟩ := HFT.out.t10
      go_wp2_with fail
      go_region
      have HE0 := Lib.hid (((((HFT.out.pu 9 (.int .i64 1)).pu 5 (.bool true)).pu 6 (.int .i64 (l : Int))).pu 7 (.int .i64 (k : Int))).pu 8 (.bool false)).dr
      clear k0_6 z0_6 k1_6 z1_6 k2_6 z2_6 k3_6 z3_6 k4_6 z4_6 k5_6 z5_6 k6_6 z6_6 k7_6 z7_6 k8_6 z8_6 k9_6 z9_6
      revert HE0
      generalize World.drew _ = W5
      intro HE0
      obtain ⟨⟨k0_77, k1_77, k2_77, k3_77, k4_77, k5_77, k6_77, k7_77, k8_77, k9_77⟩, z0_77, z1_77, z2_77, z3_77, z4_77, z5_77, z6_77, z7_77, z8_77, z9_77⟩ := HE0.out.t10
      go_wp2_with fail
      have HE := Lib.hid ((((((((((HE0.out.pu 0 (.string ⟨o.toArray⟩)).pu 1 (.slice ta tags.length tcp)).pu 2 (.slice none 0 0)).pu 3 (.string ⟨#[]⟩)).pu 4 (.bool false)).pu 5 (.bool true)).pu 6 (.int .i64 (l : Int))).pu 7 (.int .i64 (k : Int))).pu 8 (.bool false)).pu 9 (.int .i64 1))
      obtain ⟨⟨k0_99, k1_99, k2_99, k3_99, k4_99, k5_99, k6_99, k7_99, k8_99, k9_99⟩, z0_99, z1_99, z2_99, z3_99, z4_99, z5_99, z6_99, z7_99, z8_99, z9_99⟩ := HE.out.t10
      refine bodyPost_ret (v := .agg #[.string ⟨o.toArray⟩, .slice ta tags.length tcp, .slice none 0 0, .string ⟨#[]⟩, .bool false, .bool true, .int .i64 (l : Int), .int .i64 (k : Int), .bool false, .int .i64 1]) (by simp [results, Tryz.results19, go_sem, k0_99, k1_99, k2_99, k3_99, k4_99, k5_99, k6_99, k7_99, k8_99, k9_99]) rfl ?_
      exact ⟨{ name := o, tags := tags, fault := some (l, k), at_ := 1 }, (.slice ta tags.length tcp), (.slice none 0 0), rfl, Lib.hid ⟨_, _, _, ent_5 HMEAS.out HTX.out, .inr (dm.tag_flt HR.out), hx5, HE.out.at_, HE.out.rows⟩⟩
end Go.Proofs.YtlcbcgillekphaaGreatDoor.sd
