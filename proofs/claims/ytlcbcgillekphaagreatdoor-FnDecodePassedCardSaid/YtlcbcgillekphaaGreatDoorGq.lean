/-
  Proved: the contract of the laws' lHas; plain laws on the lines of faults and on rows of entries that are written or appended · the contract of the laws' lShifted.
  Conditions: each law's own; a text of at most 4000 bytes where one is read.
-/
import Derived.Test.YtlcbcgillekphaaGreatDoorGc
import Derived.Deep.AppendSrc
import Derived.Maps.AppendAt
import Derived.Deep.LoopGhost
import Derived.Test.YtlcbcgillekphaaGreatDoorGp
namespace Go.Proofs.YtlcbcgillekphaaGreatDoor.sam
open Go.RowKit Mem rw ent
set_option linter.unusedVariables false
set_option linter.unusedSimpArgs false

set_option maxRecDepth 100000 in
theorem has8 (s : ByteArray) (hs : s.size ≤ 5000) (c : UInt8) (w : World) (b : Bool) (hb : s.data.toList.contains c = b) :
    Calls Tryz.prog 8 #[.string s, .int .u8 (c.toNat : Int)] w fun e w' => e = .returned (.bool b) ∧ w = w' := by
  have hll : s.data.toList.length = s.size := by simp
  have HB := Lib.hid hb
  have hcb := c.toNat_lt
  clear hb
  go_enter Tryz.func8, Tryz.ntmps8
  go_wp2_with fail
  go_loopg [5] s.size (fun g s5 wr => ∃ i : Nat, i + g = s.size ∧ s5 = .int .i64 i ∧ w = wr ∧ Hid ((s.data.toList.take i).contains c = false))
  case atStart => exact ⟨0, by omega, rfl, rfl, Lib.hid (by simp)⟩
  case round =>
    obtain ⟨i, hi, rfl, rfl, HK⟩ := hrel
    cases gk with
    | zero =>
      have hil : ¬ (i : Int) < (s.size : Int) := by omega
      have hf : b = false := by
        rw [← HB.out, ← HK.out, List.take_of_length_le (by omega)]
      subst hf
      clear HB
      go_wp2_with fail
      go_ret
      exact ⟨rfl, rfl⟩
    | succ g =>
      have hlt : i < s.size := by omega
      have hil : (i : Int) < (s.size : Int) := by omega
      obtain ⟨d, hd⟩ : ∃ d, s[i]'hlt = d := ⟨_, rfl⟩
      have hdb := d.toNat_lt
      have hnext : (s.data.toList.take (i + 1)).contains c = (c == d) := by
        have h1 := HK.out
        rw [List.take_succ_eq_append_getElem (by omega), List.contains_eq_any_beq, List.any_append, ← List.contains_eq_any_beq, h1]
        have : s.data.toList[i]'(by omega) = d := hd
        simp [this]
      have HN := Lib.hid hnext
      clear hnext
      by_cases hcd : d = c
      · have hx : (d.toNat : Int) = (c.toNat : Int) := by rw [hcd]
        have ht : b = true := by
          rw [← HB.out]
          have h1 := HN.out
          rw [hcd] at h1
          simp at h1
          simpa using List.mem_of_mem_take h1
        subst ht
        clear HB hcd
        go_wp2_with fail
        go_ret
        exact ⟨rfl, rfl⟩
      · have hx : ¬ (d.toNat : Int) = (c.toNat : Int) := fun e => hcd (UInt8.toNat_inj.1 (by omega))
        have H1 : Hid ((s.data.toList.take (i + 1)).contains c = false) := Lib.hid (by rw [HN.out]; simpa using fun e : c = d => hcd e.symm)
        clear hcd
        go_wp2_with fail
        go_roundg g
        case measure => omega
        case rel => exact ⟨i + 1, by omega, by go_num, rfl, H1⟩
/-- The row with one cell written. -/
theorem own_set {w : World} {base : Nat} {e : TypeId} {size : Nat} {g n cap : Nat} {xs : List Value} (h : w.ownsRow base e size (.slice (some ⟨g, 0, none⟩) n cap) n xs) (hn : 0 < n) (j : Nat) (u : Value) :
    (w.setCell ⟨g, j, none⟩ u).ownsRow base e size (.slice (some ⟨g, 0, none⟩) n cap) n (xs.set j u) ∧ w.frozen? ⟨g, j, none⟩ = false := by
  rcases h.2 with ⟨h0, _⟩ | ⟨g', cap', cur, hv, hB, hg, hc, hm, hs, ht⟩
  · cases h0
  · cases hv
    refine ⟨⟨by rw [List.length_set]; exact h.1, .inr ⟨g, cap, cur.setIfInBounds j u, rfl, hB, ?_, hc, hm, by simpa using hs, ?_⟩⟩, frozen_of_row _ _ j _ _ hg⟩
    · simp [World.setCell, Array.getElem?_modify, hg]
    · rw [Array.toList_setIfInBounds, List.take_set, ht]
theorem entCells_set (l : List EnP) (i : Nat) (hi : i < l.length) (p : EnP) (j : Nat) (hj : j < 10) (u : Value) (hp : enC p.E p.tv p.fv = (enC (l[i]'hi).E (l[i]'hi).tv (l[i]'hi).fv).set j u) : (entCells l).set (i * 10 + j) u = entCells (l.set i p) := by
  induction l generalizing i with
  | nil => simp at hi
  | cons q t ih =>
    have e : ∀ (q : EnP) t, entCells (q :: t) = enC q.E q.tv q.fv ++ entCells t := fun q t => by simp [entCells]
    cases i with
    | zero =>
      simp only [List.set_cons_zero, List.getElem_cons_zero] at hp ⊢
      rw [e, e, hp, Nat.zero_mul, Nat.zero_add, List.set_append_left _ _ (by rw [enC_len]; omega)]
    | succ i =>
      simp only [List.getElem_cons_succ, List.set_cons_succ] at hp ⊢
      rw [e, e, List.set_append_right _ _ (by rw [enC_len]; omega), enC_len, show (i + 1) * 10 + j - 10 = i * 10 + j by omega, ih i (by simp at hi; omega) hp]
/-- A row of entries, one of which is written in one cell: its tags and fields stay. -/
theorem ents_set {w : World} {b : Nat} {g cap : Nat} {l : List EnP} (h : Ents w b (.slice (some ⟨g, 0, none⟩) l.length cap) l) (i : Nat) (hi : i < l.length) (p : EnP) (j : Nat) (hj : j < 10) (u : Value)
    (hp : enC p.E p.tv p.fv = (enC (l[i]'hi).E (l[i]'hi).tv (l[i]'hi).fv).set j u) (hr : ERows w b p.E.tags p.E.fields p.tv p.fv) :
    Ents (w.setCell ⟨g, i * 10 + j, none⟩ u) b (.slice (some ⟨g, 0, none⟩) l.length cap) (l.set i p) ∧ w.frozen? ⟨g, i * 10 + j, none⟩ = false := by
  have h1 := own_set h.own (by omega) (i * 10 + j) u
  refine ⟨⟨?_, fun q hq => ?_⟩, h1.2⟩
  · rw [List.length_set, ← entCells_set l i hi p j hj u hp]
    exact h1.1
  · have hq' : ERows w b q.E.tags q.E.fields q.tv q.fv := by
      rcases List.mem_or_eq_of_mem_set hq with h2 | h2
      · exact h.rows q h2
      · rw [h2]; exact hr
    have hb : But [g] w (w.setCell ⟨g, i * 10 + j, none⟩ u) := (But.refl [g] w).setCell (Or.inl (by simp)) u
    obtain ⟨_, _, cur, hc⟩ := own_base h.own g rfl
    refine hq'.but hb (fun k hk => ?_) (fun k hk => ?_)
    · obtain ⟨_, _, c2, q2⟩ := own_base hq'.tags k hk
      simpa using ne_type q2 hc (by decide)
    · obtain ⟨_, _, c2, q2⟩ := own_base hq'.fields k hk
      simpa using ne_type q2 hc (by decide)
theorem ent_one {l : List EnP} {w : World} {b : Nat} (h : ∀ p ∈ l, ERows w b p.E.tags p.E.fields p.tv p.fv) : ∀ u ∈ entCells l, u.oneCell' = true := fun u hu => by
  unfold entCells at hu
  obtain ⟨p, hp, hu⟩ := List.mem_flatMap.1 hu
  obtain ⟨nm, tm, ta, fa, tn, tc, fn, fc, ht, fb, ll, k, at_, e⟩ := enC_form (h p hp)
  rw [e] at hu
  simp at hu
  rcases hu with rfl | rfl | rfl | rfl | rfl | rfl | rfl | rfl | rfl | rfl <;> rfl
theorem ents_src {w : World} {b : Nat} {g cap : Nat} {l : List EnP} (h : Ents w b (.slice (some ⟨g, 0, none⟩) l.length cap) l) : ∀ j u, (entCells l)[j]? = some u → w.cell? ((⟨g, 0, none⟩ : Addr).add j) = some u := fun j u hj => by
  have hlt : j < (entCells l).length := (List.getElem?_eq_some_iff.1 hj).1
  have e0 := h.own.1
  have e : (⟨g, 0, none⟩ : Addr).add j = ⟨g, j, none⟩ := by unfold Addr.add; split <;> simp_all
  rw [e]
  rcases Nat.eq_zero_or_pos l.length with h0 | h0
  · rw [e0, h0] at hlt; omega
  · obtain ⟨g', cap', h1, h2, h3, h4, h5, h6⟩ := own_at h.own h0
    cases h1
    rw [h6 j (by omega)]
    exact hj
/-- One row of entries behind another. -/
theorem ents_app {w : World} {b : Nat} {v x : Value} {l m : List EnP} (h : Ents w b v l) (k : Ents w b x m) (hx : x.ownBlock ≠ none) (hb : b ≤ w.heap.size) (hn : l.length + m.length ≤ 100000) (ty : TypeId) :
    ∃ v' w', (Builtin.append_ #[23, 23] ty #[v, x]).run Tryz.prog w = .ok v' w' ∧ Ents w' b v' (l ++ m) ∧ (∀ S : List Nat, (∀ k, v.ownBlock = some k → k ∈ S) → But S w w') ∧ (v'.ownBlock = v.ownBlock ∨ v'.ownBlock = some w.heap.size) := by
  obtain ⟨a, cap, rfl⟩ := own_form k.own
  cases a with
  | none => exact absurd rfl hx
  | some a =>
    obtain ⟨g, rfl⟩ : ∃ g, a = ⟨g, 0, none⟩ := by
      rcases k.own.2 with ⟨h0, _⟩ | ⟨g, cap', cur, hv, _⟩
      · cases h0
      · cases hv; exact ⟨g, rfl⟩
    have hinf := inf_entry
    cases hi : Tryz.prog.info? 41 with
    | none => rw [hi] at hinf; cases hinf
    | some i =>
      rw [hi] at hinf
      simp only [Option.bind_some, parts] at hinf
      cases hz : i.zero with
      | none => rw [hz] at hinf; cases hinf
      | some z =>
        rw [hz] at hinf
        simp only [Option.map_some, Option.some.injEq, Prod.mk.injEq, decide_eq_true_eq] at hinf
        obtain ⟨e1, e2, e3⟩ := hinf
        have e4 : (entCells m).length = m.length * 10 := k.own.1
        obtain ⟨v', w', r1, r2, r3, r4, r5⟩ := run_append_own_at (P := Tryz.prog) w b 23 ty 41 i z 10 i.bytes Tryz.underlying23 hi hz e2 rfl e1 (by decide) v l.length _ h.own ⟨g, 0, none⟩ m.length cap (entCells m) e4
          (ents_src k) (ent_one k.rows) (by unfold maxLen; omega) (by
            have : (l.length + m.length) * i.bytes ≤ 100000 * 1000 := Nat.mul_le_mul hn e3
            omega) hb
        refine ⟨v', w', r1, ⟨?_, fun q hq => ?_⟩, fun S hS => (But.refl S w).grown r3 (fun k hk => .inl (hS k hk)), r5⟩
        · rw [List.length_append]
          have e : entCells (l ++ m) = entCells l ++ entCells m := by simp [entCells]
          rw [e]; exact r2
        · have hb0 : But (match v.ownBlock with | some k => [k] | none => []) w w' := (But.refl _ w).grown r3 (fun k hk => .inl (by rw [hk]; simp))
          have hq' : ERows w b q.E.tags q.E.fields q.tv q.fv := by
            rcases List.mem_append.1 hq with h1 | h1
            · exact h.rows q h1
            · exact k.rows q h1
          refine hq'.but hb0 (fun k hk => ?_) (fun k hk => ?_)
          · cases hv : v.ownBlock with
            | none => simp
            | some r =>
              obtain ⟨_, _, c1, q1⟩ := own_base h.own r hv
              obtain ⟨_, _, c2, q2⟩ := own_base hq'.tags k hk
              simpa using ne_type q2 q1 (by decide)
          · cases hv : v.ownBlock with
            | none => simp
            | some r =>
              obtain ⟨_, _, c1, q1⟩ := own_base h.own r hv
              obtain ⟨_, _, c2, q2⟩ := own_base hq'.fields k hk
              simpa using ne_type q2 q1 (by decide)
/-- Nothing behind a row. -/
theorem app_nil {w : World} (g n cap : Nat) (hn : n ≤ cap) (ty : TypeId) : (Builtin.append_ #[23, 23] ty #[.slice (some ⟨g, 0, none⟩) n cap, .slice none 0 0]).run Tryz.prog w = .ok (.slice (some ⟨g, 0, none⟩) n cap) w := by
  have hinf := inf_entry
  cases hi : Tryz.prog.info? 41 with
  | none => rw [hi] at hinf; cases hinf
  | some i =>
    have := run_append_room_src (P := Tryz.prog) w 23 23 ty 41 i Tryz.underlying23 hi g 0 n cap (.slice none 0 0) 0 [] (Src.ofNil w Tryz.underlying23 0) (by omega) (fun j hj => by simp at hj) (fun j hj => by simp at hj)
    simpa [World.setCells] using this
end Go.Proofs.YtlcbcgillekphaaGreatDoor.sam
namespace Go.Proofs.YtlcbcgillekphaaGreatDoor.sam
open Go.RowKit Mem rw ent
set_option linter.unusedVariables false
set_option linter.unusedSimpArgs false

def dn (n : Nat) (p : EnP) : EnP := ⟨p.E.down n, p.tv, p.fv⟩
/-- Behind j rounds. -/
def mid (n j : Nat) (l : List EnP) : List EnP := (l.take j).map (dn n) ++ l.drop j
theorem mid_len (n j : Nat) (l : List EnP) : (mid n j l).length = l.length := by
  unfold mid; simp; omega
theorem mid_at {n j : Nat} {l : List EnP} (hj : j < l.length) : (mid n j l)[j]'(by rw [mid_len]; exact hj) = l[j] := by
  unfold mid
  rw [List.getElem_append_right (by simp; omega)]
  simp [Nat.min_eq_left (Nat.le_of_lt hj)]
theorem mid_set {n j : Nat} {l : List EnP} (hj : j < l.length) : (mid n j l).set j (dn n l[j]) = mid n (j + 1) l := by
  unfold mid
  have h : ((l.take j).map (dn n)).length = j := by simp; omega
  rw [List.set_append_right _ _ (by omega), h, Nat.sub_self, List.drop_eq_getElem_cons hj, List.set_cons_zero, List.take_succ_eq_append_getElem hj, List.map_append]
  simp
theorem mid_same {n j : Nat} {l : List EnP} (hj : j < l.length) (h : dn n l[j] = l[j]) : mid n j l = mid n (j + 1) l := by
  rw [← mid_set hj, h]
  have := mid_at (n := n) hj
  rw [← this, List.set_getElem_self]
theorem mid_zero (n : Nat) (l : List EnP) : mid n 0 l = l := by simp [mid]
theorem mid_all (n : Nat) (l : List EnP) : mid n l.length l = l.map (dn n) := by simp [mid]
theorem ents_less {w : World} {b : Nat} {v : Value} {l : List EnP} (h : Ents w b v l) (hv : v.ownBlock ≠ none) : ∃ g cap, v = .slice (some ⟨g, 0, none⟩) l.length cap ∧ v.ownBlock = some g := by
  rcases h.own.2 with ⟨h0, _⟩ | ⟨g, cap, cur, hv', _⟩
  · rw [h0] at hv; exact absurd rfl hv
  · exact ⟨g, cap, hv', by rw [hv']; rfl⟩
/-- A fresh copy of a row of entries. -/
theorem copied {w : World} {b : Nat} {v : Value} {l : List EnP} (h : Ents w b v l) (hb : b ≤ w.heap.size) (hl : l.length ≤ 20000) (ty : TypeId) :
    ∃ g cap w', (Builtin.append_ #[23, 23] ty #[.slice (some ⟨w.heap.size, 0, none⟩) 0 0, v]).run Tryz.prog (w.alloc (.cells #[] 41)) = .ok (.slice (some ⟨g, 0, none⟩) l.length cap) w' ∧ Ents w' b (.slice (some ⟨g, 0, none⟩) l.length cap) l ∧ w.heap.size ≤ g ∧ l.length ≤ cap ∧ But [] w w' := by
  have hb1 : But [] w (w.alloc (.cells #[] 41)) := (But.refl [] w).alloc _
  have h0 : Ents (w.alloc (.cells #[] 41)) b (.slice (some ⟨w.heap.size, 0, none⟩) 0 0) [] := by
    refine ⟨⟨rfl, .inr ⟨w.heap.size, 0, #[], rfl, hb, heap_alloc_new w _, Nat.le_refl _, Nat.zero_le _, rfl, rfl⟩⟩, fun p hp => by simp at hp⟩
  have h1 := h.below hb1
  rcases h.own.2 with ⟨hv, hz⟩ | ⟨g, cap, cur, hv, _⟩
  · obtain rfl := List.eq_nil_of_length_eq_zero hz
    subst hv
    exact ⟨w.heap.size, 0, _, app_nil _ _ _ (Nat.le_refl _) ty, h0, Nat.le_refl _, Nat.le_refl _, hb1⟩
  · obtain ⟨v', w', r1, r2, r3, r4⟩ := ents_app h0 h1 (by rw [hv]; intro e; cases e) (by simp; omega) (by simp; omega) ty
    rw [List.nil_append] at r2
    have hne : v'.ownBlock ≠ none := by
      rcases r4 with e | e <;> (rw [e]; intro e; cases e)
    obtain ⟨g', cap', e1, e2⟩ := ents_less r2 hne
    subst e1
    have hg : w.heap.size ≤ g' := by
      rcases r4 with e | e
      · have : (some g' : Option Nat) = some w.heap.size := e2.symm.trans e
        simp at this; omega
      · have : (some g' : Option Nat) = some (w.alloc (.cells #[] 41)).heap.size := e2.symm.trans e
        simp at this; omega
    have hc : l.length ≤ cap' := by
      rcases r2.own.2 with ⟨h0, _⟩ | ⟨g2, cap2, cur2, hv2, _, _, hc2, _⟩
      · cases h0
      · cases hv2; exact hc2
    exact ⟨g', cap', w', r1, r2, hg, hc, hb1.join (r3 [w.heap.size] (fun k e => by simp only [Value.ownBlock, Option.some.injEq] at e; simp [e.symm])) (fun _ e => e) (fun x hx hl => by simp at hx; omega)⟩
def ShOut (w : World) (b : Nat) (n : Nat) (l : List EnP) (e : Ending) (w' : World) : Prop :=
  ∃ v' : Value, e = .returned v' ∧ v'.ownBlock ≠ none ∧ Hid (Ents w' b v' (l.map (dn n)) ∧ But [] w w')
set_option maxRecDepth 100000 in
set_option maxHeartbeats 2000000 in
theorem shifted10 (l : List EnP) (v : Value) (w : World) (b : Nat) (h : Ents w b v l) (hb : b ≤ w.heap.size) (n : Nat) (hn : n ≤ 5000) (hl : l.length ≤ 20000) (hline : ∀ p ∈ l, ∀ x y, p.E.fault = some (x, y) → x ≤ 5000) :
    Calls Tryz.prog 10 #[v, .int .i64 n] w (ShOut w b n l) := by
  obtain ⟨g, cap, w1, hrun, h1, hg, hc, hb1⟩ := copied h hb hl 23
  have HRUN := Lib.hid hrun
  have HE := Lib.hid (And.intro h1 hb1)
  have HLN := Lib.hid hline
  have HG := Lib.hid hg
  clear h hrun h1 hb1 hline hb hg
  obtain ⟨N, hN⟩ : ∃ N, l.length = N := ⟨_, rfl⟩
  have HN := Lib.hid hN
  rw [hN] at HRUN HE hc hl
  clear hN
  go_enter Tryz.func10, Tryz.ntmps10
  go_wp2_with (at_builtin; refine app_step rfl _ _ _ _ rfl _ _ _ rfl rfl HRUN.out ?_)
  go_loopg [12] N (fun k s12 wr => ∃ j : Nat, j + k = N ∧ s12 = .int .i64 j ∧ Hid (Ents wr b (.slice (some ⟨g, 0, none⟩) N cap) (mid n j l) ∧ But [] w wr))
  case atStart => exact ⟨0, by omega, rfl, Lib.hid (by rw [mid_zero]; exact HE.out)⟩
  case round =>
    obtain ⟨j, hj, rfl, hI⟩ := hrel
    cases gk with
    | zero =>
      have hge : ¬ (j : Int) < (N : Int) := by omega
      have HF : Hid (Ents wr b (.slice (some ⟨g, 0, none⟩) N cap) (l.map (dn n)) ∧ But [] w wr) := Lib.hid (by
        have h1 := hI.out
        rw [show j = l.length by rw [HN.out]; omega, mid_all] at h1
        exact h1)
      clear hI
      go_wp2_with fail
      go_ret
      exact ⟨.slice (some ⟨g, 0, none⟩) N cap, rfl, fun e => (by cases e), HF⟩
    | succ k =>
      have hjl : j < l.length := by rw [HN.out]; omega
      have hlt : (j : Int) < (N : Int) := by omega
      have hml : (mid n j l).length = N := by rw [mid_len, HN.out]
      have hE := hI.out.1
      rw [← hml] at hE
      obtain ⟨g', cap', q1, q2, q3, q4, q5, q6⟩ := hE.at_ (by omega)
      cases q1
      have q7 := q6 j (by omega)
      rw [mid_at hjl] at q7
      cases hfl : l[j].E.fault with
      | none =>
        have his : wr.cell? ⟨g, j * 10 + 5, none⟩ = some (.bool false) := by rw [q7 5 (by decide)]; unfold enC; rw [hfl]; rfl
        have HNX : Hid (Ents wr b (.slice (some ⟨g, 0, none⟩) N cap) (mid n (j + 1) l) ∧ But [] w wr) := Lib.hid (by
          rw [← mid_same hjl (by unfold dn dm.En.down; rw [hfl]; cases hh : l[j] with | mk E tv fv => rw [hh] at hfl; simp only at hfl; cases E; simp only at hfl; subst hfl; rfl)]
          exact hI.out)
        clear hI hE q2 q3 q4 q5 q6 q7 hml hfl
        go_wp2_with fail
        go_roundg k
        case measure => omega
        case rel => exact ⟨j + 1, by omega, by go_num, HNX⟩
      | some q =>
        obtain ⟨x, y⟩ := q
        have his : wr.cell? ⟨g, j * 10 + 5, none⟩ = some (.bool true) := by rw [q7 5 (by decide)]; unfold enC; rw [hfl]; rfl
        have hln : wr.cell? ⟨g, j * 10 + 5 + 1, none⟩ = some (.int .i64 (x : Int)) := by rw [show j * 10 + 5 + 1 = j * 10 + 6 by omega, q7 6 (by decide)]; unfold enC; rw [hfl]; rfl
        have hx5 : x ≤ 5000 := HLN.out _ (List.getElem_mem hjl) x y hfl
        have hset := ents_set hE j (by omega) (dn n l[j]) 6 (by decide) (.int .i64 ((x : Int) + (n : Int))) (by
          rw [mid_at hjl]
          unfold enC dn dm.En.down
          simp only
          rw [hfl]
          simp [flC, dm.shF, Int.add_comm]) (by
          have := hE.rows (mid n j l)[j] (List.getElem_mem _)
          rw [mid_at hjl] at this
          exact this)
        rw [mid_set hjl, hml] at hset
        have hzf : wr.frozen? ⟨g, j * 10 + 5 + 1, none⟩ = false := hset.2
        have HNX : Hid (Ents (wr.setCell ⟨g, j * 10 + 5 + 1, none⟩ (.int .i64 ((x : Int) + (n : Int)))) b (.slice (some ⟨g, 0, none⟩) N cap) (mid n (j + 1) l) ∧ But [] w (wr.setCell ⟨g, j * 10 + 5 + 1, none⟩ (.int .i64 ((x : Int) + (n : Int))))) := Lib.hid ⟨hset.1, hI.out.2.setCell (Or.inr HG.out) _⟩
        have hxn : (x : Int) + (n : Int) ≤ 10000 := by omega
        clear hI hE q2 q3 q4 q5 q6 q7 hml hfl hset
        go_wp2_with fail
        go_roundg k
        case measure => omega
        case rel => exact ⟨j + 1, by omega, by go_num, HNX⟩
end Go.Proofs.YtlcbcgillekphaaGreatDoor.sam
