/-
  Proved: the contract of the laws' lEntries.
  Conditions: a text of at most 4000 bytes.
-/
import Derived.Test.YtlcbcgillekphaaGreatDoorSdn
import Derived.Test.YtlcbcgillekphaaGreatDoorDhk
namespace Go.Proofs.YtlcbcgillekphaaGreatDoor.sd
open Go.RowKit Mem rw ent
set_option linter.unusedVariables false
set_option linter.unusedSimpArgs false

/-- The row of entries lies apart from the decoder's block. -/
theorem ents_apart {w : World} {P b : Nat} {s : ByteArray} {a p f : Nat} {v : Value} {l : List EnP} (h : Ents w b v l) (k : SD w P s a p f) :
    (∀ q, v.ownBlock = some q → q ∉ [P]) ∧ ∀ e ∈ l, (∀ q, e.tv.ownBlock = some q → q ∉ [P]) ∧ (∀ q, e.fv.ownBlock = some q → q ∉ [P]) := by
  refine ⟨fun q e => ?_, fun x hx => ⟨fun q e => ?_, fun q e => ?_⟩⟩
  · obtain ⟨_, _, cur, hc⟩ := own_base h.own q e
    simpa using ne_type hc k (by decide)
  · obtain ⟨_, _, cur, hc⟩ := own_base (h.rows x hx).tags q e
    simpa using ne_type hc k (by decide)
  · obtain ⟨_, _, cur, hc⟩ := own_base (h.rows x hx).fields q e
    simpa using ne_type hc k (by decide)
theorem Ents.at_ {w0 w w' : World} {P b : Nat} {s : ByteArray} {a p f a' p' f' : Nat} {v : Value} {l : List EnP} (h : Ents w b v l) (k : SD w P s a p f) (k' : At w P s a' p' f' w') : Ents w' b v l :=
  h.but k'.but (ents_apart h k).1 (ents_apart h k).2
theorem entry_pos {T : List UInt8} {m m' : dm.M} {E : dm.En} (hp : m.part = 0) (h : dm.entryM T m = (E, m')) : m.at_ ≤ m'.at_ ∧ (m'.part = 4 ∨ m.at_ < m'.at_) := dm.entry_le hp h
/-- What lEntries tells. -/
def LlOut (s : ByteArray) (w : World) (e : Ending) (w' : World) : Prop :=
  ∃ (v : Value) (l : List EnP), e = .returned v ∧ Hid (Ents w' w.heap.size v l ∧ l.map (·.E) = dm.allM s.data.toList ∧ l.length ≤ 10000 ∧ But [] w w')
/-- Where lEntries stands. -/
structure NS (w : World) (s : ByteArray) (v : Value) (l : List EnP) (x p f : Nat) (wr : World) : Prop where
  sd : SD wr w.heap.size s x p f
  but : But [] w wr
  ents : Ents wr w.heap.size v l
  le : x ≤ s.size
theorem NS.call {w : World} {s : ByteArray} {v : Value} {l : List EnP} {x p f x' p' f' : Nat} {wr w' : World} (h : NS w s v l x p f wr) (k : At wr w.heap.size s x' p' f' w') (hx : x' ≤ s.size) : NS w s v l x' p' f' w' :=
  ⟨k.sd, h.but.join k.but (fun _ e => e) (fun y hy hl => by simp at hy; subst hy; omega), Ents.at_ (w0 := w) h.ents h.sd k, hx⟩
theorem NS.more {w : World} {s : ByteArray} {v : Value} {l : List EnP} {x p f : Nat} {wr : World} (h : NS w s v l x p f wr) (hn : l.length ≤ 100000) {E : dm.En} {tv fv : Value} (hr : ERows wr w.heap.size E.tags E.fields tv fv) (ty : TypeId) :
    ∃ (nm tm : ByteArray) (ta fa : Option Addr) (tn tc fn fc : Nat) (ht fb : Bool) (ll k at_ g cap : Nat) (w2 : World),
      enV E tv fv = .agg #[.string nm, .slice ta tn tc, .slice fa fn fc, .string tm, .bool ht, .bool fb, .int .i64 ll, .int .i64 k, .bool false, .int .i64 at_] ∧
      (Builtin.append_ #[23, 23] ty #[v, .slice (some ⟨wr.heap.size, 0, none⟩) 1 1]).run Tryz.prog (wr.alloc (.cells #[.string nm, .slice ta tn tc, .slice fa fn fc, .string tm, .bool ht, .bool fb, .int .i64 ll, .int .i64 k, .bool false, .int .i64 at_] 41)) = .ok (.slice (some ⟨g, 0, none⟩) (l.length + 1) cap) w2 ∧
      NS w s (.slice (some ⟨g, 0, none⟩) (l.length + 1) cap) (l ++ [⟨E, tv, fv⟩]) x p f w2 := by
  obtain ⟨nm, tm, ta, fa, tn, tc, fn, fc, ht, fb, ll, k, at_, e⟩ := enC_form hr
  obtain ⟨g, cap, w2, r1, r2, r3, r4⟩ := h.ents.more hn h.but.size ⟨E, tv, fv⟩ hr ty
  simp only at r1
  rw [e] at r1
  have hb0 := r3 (match v.ownBlock with | some k => [k] | none => []) (fun k hk => by rw [hk]; simp)
  have hS : ∀ k, k ∈ (match v.ownBlock with | some k => [k] | none => []) → v.ownBlock = some k := fun k hk => by
    cases e : v.ownBlock with
    | none => rw [e] at hk; simp at hk
    | some q => rw [e] at hk; simp at hk; rw [hk]
  have hP := (ents_apart h.ents h.sd).1
  refine ⟨nm, tm, ta, fa, tn, tc, fn, fc, ht, fb, ll, k, at_, g, cap, w2, by unfold enV; rw [e], r1, h.sd.but hb0 (fun hk => by simpa using hP _ (hS _ hk)), h.but.join hb0 (fun _ e => e) (fun y hy hl => ?_), r2, h.le⟩
  have := (own_base h.ents.own y (hS y hy)).1
  omega
set_option maxRecDepth 100000 in
set_option maxHeartbeats 4000000 in
theorem entries7 (s : ByteArray) (hs : s.size ≤ 4000) (w : World) :
    Calls Tryz.prog 7 #[.string s] w (LlOut s w) := by
  obtain ⟨T, hT⟩ : ∃ T, s.data.toList = T := ⟨_, rfl⟩
  have HLL : Hid (T.length = s.size) := Lib.hid (by rw [← hT]; simp)
  have HT := Lib.hid hT
  have HN0 := Lib.hid (new17 s w)
  clear hT
  go_enter Tryz.func7, Tryz.ntmps7
  go_wp2_with fail
  refine HN0.out.mono ?_
  rintro e w1 ⟨rfl, hsd, hb⟩
  have HNS : Hid (NS w s (.slice none 0 0) [] 0 5 0 w1) := Lib.hid ⟨hsd, hb, Ents.nil _ _, by omega⟩
  clear hsd hb HN0
  dsimp only
  go_wp2_with fail
  go_loopg [3] (dm.mu T 0 5) (fun g s3 wr => ∃ (v : Value) (l : List EnP) (x p f : Nat), v = s3 ∧ g = dm.mu T x p ∧ (p = 5 ∨ p = 4) ∧ Hid (NS w s v l x p f wr ∧ l.length + dm.mu T x p ≤ dm.mu T 0 5 ∧ ∃ fu, dm.mu T x p < fu ∧ dm.allM T = l.map (·.E) ++ dm.entriesM T fu ⟨x, p, f⟩))
  case atStart => exact ⟨_, [], 0, 5, 0, rfl, rfl, .inl rfl, Lib.hid ⟨HNS.out, by simp, 2 * T.length + 2, by unfold dm.mu; simp, rfl⟩⟩
  case round =>
    obtain ⟨v, l, x, p, f, rfl, hg, hp, hI⟩ := hrel
    have HN := Lib.hid (nextC _ s hs x p f hp wr hI.out.1.sd hI.out.1.le)
    clear HNS
    go_wp2_with fail
    refine HN.out.mono ?_
    rintro e w2 ⟨b, hnm, hbs, rfl, hA⟩
    rw [HT.out] at hnm
    have hD := hI.out.1.call hA.out hbs
    have hx := dm.next_le T x p f (by rw [HLL.out]; exact hI.out.1.le)
    rw [hnm] at hx
    dsimp only at hx ⊢
    obtain ⟨fu, hfu1, hfu2⟩ := hI.out.2.2
    have hl1 := hI.out.2.1
    by_cases hlt : b < s.size
    · have hdb : decide (b < s.size) = true := by simpa using hlt
      rw [hdb]
      have HEN := Lib.hid (entry19 _ s hs b w2 hD.sd hbs)
      have HD := Lib.hid hD
      have HL1 := Lib.hid hl1
      have HX := Lib.hid hx
      have HNM := Lib.hid hnm
      have HFU := Lib.hid (And.intro hfu1 hfu2)
      clear hD hl1 hx hnm hfu1 hfu2 hI hA HN hdb
      go_wp2_with fail
      refine HEN.out.mono ?_
      rintro e w3 ⟨E, tv, fv, rfl, hh⟩
      obtain ⟨a3, p3, f3, hr, hp3, ha3, hA3, hrows⟩ := hh.out
      have hD3 := HD.out.call hA3 ha3
      obtain ⟨nm, tm, ta, fa, tn, tc, fn, fc, ht, fb, ll, k, at_, g', cap, w4, hev, hrun, hns⟩ := hD3.more (by have := HL1.out; unfold dm.mu at this; simp at this; have := HLL.out; omega) (hrows.mono HD.out.but.size) 23
      rw [hev]
      rw [HT.out] at hr
      have he := dm.entry_le rfl hr
      simp only at he
      have hmu := dec.mu_lt (T := T) hp HX.out.1 (fun h => HX.out.2 h (by have := HLL.out; have := HX.out.1; omega)) he.1 he.2 hp3 (by have := HLL.out; omega) (by have := HLL.out; omega)
      have HREL : Hid (NS w s (.slice (some ⟨g', 0, none⟩) (l.length + 1) cap) (l ++ [(⟨E, tv, fv⟩ : EnP)]) a3 p3 f3 w4 ∧ (l ++ [(⟨E, tv, fv⟩ : EnP)]).length + dm.mu T a3 p3 ≤ dm.mu T 0 5 ∧ ∃ fu, dm.mu T a3 p3 < fu ∧ dm.allM T = (l ++ [(⟨E, tv, fv⟩ : EnP)]).map (·.E) ++ dm.entriesM T fu ⟨a3, p3, f3⟩) := Lib.hid (by
        refine ⟨hns, by have := HL1.out; simp; omega, fu - 1, by have := HFU.out.1; omega, ?_⟩
        rw [HFU.out.2]
        obtain ⟨f1, rfl⟩ : ∃ f1, fu = f1 + 1 := ⟨fu - 1, by have := HFU.out.1; omega⟩
        rw [dm.entriesM, HNM.out]
        simp only []
        rw [if_pos (by have := HLL.out; omega), hr]
        simp)
      have HRUN := Lib.hid hrun
      have HP3 := Lib.hid hp3
      have hms : dm.mu T a3 p3 < gk := by rw [hg]; exact hmu
      clear hh hr hA3 hrows hD3 hev hrun hns he hmu hp3 hp hg hlt
      dsimp only
      go_wp2_with (at_builtin; refine app_step rfl _ _ _ _ rfl _ _ _ rfl rfl HRUN.out ?_)
      go_roundg (dm.mu T a3 p3)
      case measure => exact hms
      case rel => exact ⟨_, l ++ [(⟨E, tv, fv⟩ : EnP)], a3, p3, f3, rfl, rfl, HP3.out, HREL⟩
    · have hdb : decide (b < s.size) = false := by simpa using hlt
      rw [hdb]
      have HALL : Hid (dm.allM T = l.map (·.E)) := Lib.hid (by
        rw [hfu2]
        obtain ⟨f1, rfl⟩ : ∃ f1, fu = f1 + 1 := ⟨fu - 1, by omega⟩
        rw [dm.entriesM, hnm]
        simp only []
        rw [if_neg (by have := HLL.out; omega)]
        simp)
      have hll : l.length ≤ 10000 := by
        have h2 := HLL.out
        unfold dm.mu at hl1
        simp at hl1
        omega
      have HF : Hid (Ents w2 w.heap.size v l ∧ l.map (·.E) = dm.allM s.data.toList ∧ l.length ≤ 10000 ∧ But [] w w2) := Lib.hid ⟨hD.ents, by rw [HT.out]; exact HALL.out.symm, hll, hD.but⟩
      clear hD hl1 hx hnm hfu1 hfu2 hI hA HN hdb HALL hll hg hlt
      go_wp2_with fail
      go_ret
      exact ⟨v, l, rfl, HF⟩
end Go.Proofs.YtlcbcgillekphaaGreatDoor.sd
