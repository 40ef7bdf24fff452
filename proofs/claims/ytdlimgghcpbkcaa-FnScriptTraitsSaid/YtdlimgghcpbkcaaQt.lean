/-
  Proved: one law of a region that draws its order: all operations but the last only read or call what only reads (but for draws), and the last one (a store) waits for them all: one walk in the order of the text serves.
  Conditions: the Bool of the region's edges, which the kernel settles.
-/
import Derived.Test.YtdlimgghcpbkcaaMem
import Derived.Deep.QuietTactic
import Derived.BigQuiet
import Derived.StillTailTactics
namespace Go.Proofs.Ytdlimgghcpbkcaa.Mem
open Go.RowKit
set_option linter.unusedVariables false

section
variable {P : Program} {md : Region.Mode} {C : World → Prop}

/-- Edges go back; no guards. -/
def backB (l : List Oper) : Bool := (List.range l.length).all fun j => match l[j]? with
  | some o => o.guard.isNone && o.after.all fun e => decide (e.on < j)
  | none => true
theorem backB_spec {l : List Oper} (h : backB l = true) {j : Nat} {o : Oper} (ho : l[j]? = some o) : o.guard = none ∧ ∀ e ∈ o.after, e.on < j := by
  have hj : j < l.length := (List.getElem?_eq_some_iff.1 ho).1
  have h1 := List.all_eq_true.1 h j (List.mem_range.2 hj)
  simp only [ho, Bool.and_eq_true, Option.isNone_iff_eq_none] at h1
  exact ⟨h1.1, fun e he => by simpa using Array.all_eq_true_iff_forall_mem.1 h1.2 e he⟩

theorem all_listed {l : List Oper} {listed : Array Bool} (hb : backB l = true) (hs : listed.size = l.length) (h : Region.ready md l.toArray listed = []) : ∀ i, i < l.length → listed.getD i true = true := by
  intro i
  induction i using Nat.strongRecOn with
  | _ i ih =>
    intro hi
    cases hu : listed.getD i true with
    | true => rfl
    | false =>
      exfalso
      have hr : i ∈ Region.ready md l.toArray listed := by
        refine mem_ready.2 ⟨hu, l[i], by simp [hi], fun e he _ => ?_⟩
        have hlt := (backB_spec hb (List.getElem?_eq_getElem hi)).2 e he
        have h1 := ih e.on hlt (by omega)
        have h2 : e.on < listed.size := by omega
        simp [h2] at h1 ⊢; exact h1
      rw [h] at hr
      cases hr

theorem getD_push {listed : Array Bool} {d : Bool} {i : Nat} (hi : i < listed.size) : (listed.push false).getD i d = listed.getD i d := by
  simp [hi, Array.getElem_push, Nat.lt_succ_of_lt hi]

theorem any_of_quiet {l : List Oper} {o : Oper} {Q : Exit → Act → World → Prop} (hb : backB (l ++ [o]) = true) (hsk : Region.sinkB md (l ++ [o]).toArray l.length = true) :
    ∀ (f : Nat) (listed : Array Bool) (a : Act) (w : World), listed.size = l.length → HeadInv md (l ++ [o]).toArray l.length (listed.push false) → C w →
      wpAnyQ P md l.toArray C (fun a' => ∀ w', C w' → wpOp P (l ++ [o]).toArray Q l.length (fun a w => Q .normal a w) a' w') f listed a →
      wpAny P md (l ++ [o]).toArray Q (f + 1) (listed.push false) a w := by
  have hb' : backB l = true := by
    refine List.all_eq_true.2 fun j hj => ?_
    have hj' := List.mem_range.1 hj
    have h1 := List.all_eq_true.1 hb j (List.mem_range.2 (by simp; omega))
    rw [List.getElem?_append_left hj'] at h1
    exact h1
  have hc : Region.chainB md (l ++ [o]).toArray l.length = true := by
    refine List.all_eq_true.2 fun t ht => ?_
    have := List.mem_range.1 ht
    simp at this
    simp; omega
  have hn : l.length < (l ++ [o]).toArray.size := by simp
  -- what may come up
  have hless : ∀ listed : Array Bool, listed.size = l.length → ∀ i, i < l.length → (i ∈ Region.ready md (l ++ [o]).toArray (listed.push false) ↔ i ∈ Region.ready md l.toArray listed) := by
    intro listed hs i hi
    rw [mem_ready, mem_ready, getD_push (by omega)]
    have e1 : (l ++ [o]).toArray[i]? = l.toArray[i]? := by simp [List.getElem?_append_left hi]
    rw [e1]
    refine and_congr Iff.rfl (exists_congr fun oi => ?_)
    constructor
    · rintro ⟨ho, h⟩
      refine ⟨ho, fun e he hbd => ?_⟩
      have := h e he hbd
      rwa [getD_push (by have := (backB_spec hb' (by simpa using ho)).2 e he; omega)] at this
    · rintro ⟨ho, h⟩
      refine ⟨ho, fun e he hbd => ?_⟩
      rw [getD_push (by have := (backB_spec hb' (by simpa using ho)).2 e he; omega)]
      exact h e he hbd
  -- when all is listed but the last
  have hlast : ∀ (g : Nat) (listed : Array Bool) (a : Act) (w : World), listed.size = l.length → (∀ i, i < l.length → listed.getD i true = true) →
      wpOp P (l ++ [o]).toArray Q l.length (fun a w => Q .normal a w) a w → wpAny P md (l ++ [o]).toArray Q (g + 1) (listed.push false) a w := by
    intro g listed a w hs hall hop
    have hrn : ∀ i, i ∈ Region.ready md (l ++ [o]).toArray (listed.push false) → i = l.length := by
      intro i hi
      obtain ⟨hu, oi, hoi, _⟩ := mem_ready.1 hi
      have hlt : i < (l ++ [o]).toArray.size := (Array.getElem?_eq_some_iff.1 hoi).1
      simp at hlt
      by_cases hil : i < l.length
      · rw [getD_push (by omega), hall i hil] at hu; cases hu
      · omega
    have hin : l.length ∈ Region.ready md (l ++ [o]).toArray (listed.push false) := by
      refine mem_ready.2 ⟨by simp [← hs], o, by simp, fun e he _ => ?_⟩
      have hlt := (backB_spec hb (j := l.length) (o := o) (by simp)).2 e he
      have h1 := hall e.on hlt
      rw [getD_push (by omega)]
      have h2 : e.on < listed.size := by omega
      simp [h2] at h1 ⊢; exact h1
    have hdone : Region.ready md (l ++ [o]).toArray ((listed.push false).setIfInBounds l.length true) = [] := by
      refine List.eq_nil_iff_forall_not_mem.2 fun i hi => ?_
      obtain ⟨hu, oi, hoi, _⟩ := mem_ready.1 hi
      have hlt : i < (l ++ [o]).toArray.size := (Array.getElem?_eq_some_iff.1 hoi).1
      simp at hlt
      by_cases hil : i < l.length
      · rw [getD_set_ne true (by omega), getD_push (by omega), hall i hil] at hu; cases hu
      · obtain rfl : i = l.length := by omega
        simp [← hs] at hu
    refine ⟨fun h => (by rw [h] at hin; cases hin), fun i hi => ?_⟩
    obtain rfl := hrn i hi
    refine wpOp_mono (fun a' w' h' => ?_) hop
    cases g with
    | zero => exact ⟨hdone, h'⟩
    | succ g => exact ⟨fun _ => h', fun i hi => by rw [hdone] at hi; cases hi⟩
  intro f
  induction f with
  | zero =>
    intro listed a w hs inv hC h
    exact hlast 0 listed a w hs (all_listed hb' hs h.1) (h.2 w hC)
  | succ f ih =>
    intro listed a w hs inv hC h
    by_cases h0 : Region.ready md l.toArray listed = []
    · exact hlast (f + 1) listed a w hs (all_listed hb' hs h0) (h.1 h0 w hC)
    · obtain ⟨i0, hi0⟩ := List.exists_mem_of_ne_nil _ h0
      obtain ⟨hu0, o0, ho0, _⟩ := mem_ready.1 hi0
      have hi0l : i0 < l.length := by have := (Array.getElem?_eq_some_iff.1 ho0).1; simpa using this
      have hun : (listed.push false).getD i0 true = false := by rw [getD_push (by omega)]; exact hu0
      refine ⟨fun h1 => ?_, fun i hi => ?_⟩
      · have := (hless listed hs i0 hi0l).2 hi0
        rw [h1] at this; cases this
      · have hil : i < l.length := by
          rcases Nat.lt_or_ge i l.length with h' | h'
          · exact h'
          · exact absurd hi (tail_waits hsk hc hn inv _ i0 rfl hi0l hun i h')
        have hq := h.2 i ((hless listed hs i hil).1 hi)
        have e1 : (l ++ [o]).toArray[i]? = l.toArray[i]? := by simp [List.getElem?_append_left hil]
        have hg : (l[i]).guard = none := (backB_spec hb' (List.getElem?_eq_getElem hil)).1
        have hq' : qOp P (l ++ [o]).toArray C i (wpAnyQ P md l.toArray C (fun a' => ∀ w', C w' → wpOp P (l ++ [o]).toArray Q l.length (fun a w => Q .normal a w) a' w') f (listed.setIfInBounds i true)) a := by
          unfold qOp at hq ⊢
          have e2 : l.toArray[i]? = some l[i] := by simp [hil]
          rw [e1, e2]
          rw [e2] at hq
          simp only [Region.wanted, hg] at hq ⊢
          exact hq
        refine wpOp_of_qOp hC (fun a' w' hC' h' => ?_) hq'
        have e3 : (listed.push false).setIfInBounds i true = (listed.setIfInBounds i true).push false := by
          apply Array.ext_getElem?
          intro k
          rw [Array.getElem?_setIfInBounds, Array.getElem?_push, Array.getElem?_push, Array.getElem?_setIfInBounds]
          by_cases hk : i = k
          · subst hk
            have : i < listed.size := by omega
            simp [this, Nat.ne_of_lt this, Nat.lt_succ_of_lt this]
          · simp [hk]
        rw [e3]
        refine ih _ a' w' (by simpa using hs) ?_ hC' h'
        rw [← e3]
        exact inv.set hi hil
end

def quietTailB (l : List Oper) (n : Nat) : Bool :=
  decide (l.length = n + 1) && backB l && Region.sinkB .any l.toArray n && Region.lexB .any (l.take n).toArray

theorem region_quiet_tail {P : Program} {id : Nat} {Q : Exit → Act → World → Prop} {a : Act} {w : World} {l : List Oper} (n : Nat) (hm : P.follows .mixedOrders = true) (hB : quietTailB l n = true)
    (h : wpQuiet P (l.take n).toArray (fun w' => ∃ k, w' = w.drewN k) (fun a' => ∀ k, wpList P l.toArray Q (l.drop n) a' (w.drewN k)) (l.take n) a) : (Code.region id l.toArray true).wp P Q a w := by
  simp only [quietTailB, Bool.and_eq_true, decide_eq_true_eq] at hB
  obtain ⟨⟨⟨hl, hb⟩, hsk⟩, hlex⟩ := hB
  have h1 : (l.drop n).length = 1 := by rw [List.length_drop]; omega
  obtain ⟨o, hd⟩ := List.length_eq_one_iff.1 h1
  have ho : l = l.take n ++ [o] := by rw [← hd, List.take_append_drop]
  have hn : (l.take n).length = n := by rw [List.length_take]; omega
  clear h1
  rw [hd] at h
  clear hd
  generalize l.take n = l' at *
  subst ho
  subst hn
  simp only [Region.lexB, Bool.and_eq_true] at hlex
  refine wp_region_any hm ?_
  have e : (fun a' => ∀ k, wpList P (l' ++ [o]).toArray Q [o] a' (w.drewN k)) = (fun a' => ∀ w', (∃ k, w' = w.drewN k) → wpOp P (l' ++ [o]).toArray Q l'.length (fun a w => Q .normal a w) a' w') := by
    funext a'
    apply propext
    constructor
    · rintro h w' ⟨k, rfl⟩
      have := h k
      unfold wpOp
      simpa [wpList] using this
    · intro h k
      have := h _ ⟨k, rfl⟩
      unfold wpOp at this
      simpa [wpList] using this
  rw [e] at h
  have hq := wpAnyQ_lex (C := fun w' => ∃ k, w' = w.drewN k) (md := .any) hlex.1 l' 0 (Array.replicate l'.toArray.size false) a (by simp) (by simpa using hlex.2) h
  have e2 : (Array.replicate l'.toArray.size false).push false = Array.replicate (l'.toArray.size + 1) false := by rw [Array.replicate_succ]
  have hin : HeadInv .any (l' ++ [o]).toArray l'.length ((Array.replicate l'.toArray.size false).push false) := by
    rw [e2]
    refine ⟨by simp, fun j oj _ hj => (by rw [getD_replicate_false] at hj; cases hj), fun t _ ht => getD_in (by simpa using ht) (getD_replicate_false _ t)⟩
  have := any_of_quiet (Q := Q) (C := fun w' => ∃ k, w' = w.drewN k) hb hsk _ _ a { w with drawn := w.drawn + 1 } (by simp) hin ⟨1, rfl⟩ hq
  rw [e2] at this
  simpa using this
end Go.Proofs.Ytdlimgghcpbkcaa.Mem
