/-
  Proved: the contracts of the reference's Breaks and Token.
  Conditions: a text of at most 5000 bytes; a kind of token from 0 to 4.
-/
import Derived.Test.YtlcbcgillekphaaGreatDoorSpe
import Derived.Test.YtlcbcgillekphaaGreatDoorGi
import Derived.Test.YtlcbcgillekphaaGreatDoorEscQ
namespace Go.Proofs.YtlcbcgillekphaaGreatDoor.spe
open Go.RowKit Mem rw
set_option linter.unusedVariables false

theorem nil_str (w : World) : (convert 51 9 (.slice none 0 0)).run Tryz.prog w = .ok (.string ⟨#[]⟩) w := by kernel_rfl
theorem own_str {w : World} {B : Nat} {v : Value} {l : List UInt8} (h : w.ownsRow B 5 1 v l.length (Lib.byteCells l)) : (convert 51 9 v).run Tryz.prog w = .ok (.string ⟨l.toArray⟩) w := by
  rcases h.2 with ⟨rfl, h0⟩ | ⟨g, cap, cur, rfl, -, hg, hle, -, -, htk⟩
  · have : l = [] := List.eq_nil_of_length_eq_zero h0
    subst this
    exact nil_str w
  · have hs : (⟨l.toArray⟩ : ByteArray).size = l.length := by simp [ByteArray.size]
    have hc := conv_str w 51 5 9 Tryz.underlying51 Tryz.underlying5 Tryz.underlying9 g 0 cap ⟨l.toArray⟩ (fun j hj => by
      have hj' : j < l.length := by rw [hs] at hj; exact hj
      rw [Nat.zero_add, cell_of_row _ _ j _ _ _ hg]
      rw [Nat.mul_one] at htk
      have : cur[j]? = (Lib.byteCells l)[j]? := by rw [← htk]; simp [hj']
      rw [this]
      simp only [Lib.byteCells, List.getElem?_map, List.getElem?_eq_getElem hj', Option.map_some, List.getD, Option.getD_some])
    rw [hs] at hc
    exact hc
theorem list_get (s : ByteArray) (j : Nat) (h : j < s.size) (h' : j < s.data.toList.length) : s.data.toList[j] = s[j] := rfl
set_option maxRecDepth 100000 in
theorem breaks8 (s : ByteArray) (hs : s.size ≤ 5000) (w : World) :
    Calls Tryz.prog 11 #[.string s] w fun e w' => e = .returned (.int .i64 (dm.breaks s.data.toList : Nat)) ∧ w = w' := by
  have hll : s.data.toList.length = s.size := by simp
  go_enter Tryz.func11, Tryz.ntmps11
  go_wp2_with fail
  go_loopg [3, 4] s.size (fun g s3 s4 wr => ∃ i b : Nat, i + g = s.size ∧ b ≤ i ∧ s4 = .int .i64 i ∧ s3 = .int .i64 b ∧ w = wr ∧ Hid (dm.breaks (s.data.toList.take i) = b))
  case atStart => exact ⟨0, 0, by omega, by omega, rfl, rfl, rfl, Lib.hid rfl⟩
  case round =>
    obtain ⟨i, b, hi, hb, rfl, rfl, rfl, HK⟩ := hrel
    cases gk with
    | zero =>
      have hil : ¬ (i : Int) < (s.size : Int) := by omega
      have HF : Hid (dm.breaks s.data.toList = b) := Lib.hid (by
        rw [← HK.out, List.take_of_length_le (by omega)])
      go_wp2_with fail
      go_ret
      exact ⟨by rw [HF.out]; rfl, rfl⟩
    | succ g =>
      have hlt : i < s.size := by omega
      have hil : (i : Int) < (s.size : Int) := by omega
      have hnext : dm.breaks (s.data.toList.take (i + 1)) = b + (if s[i]'hlt = 10 then 1 else 0) := by
        rw [List.take_succ_eq_append_getElem (by omega), dec.breaks_snoc, HK.out]
        rfl
      generalize hc : s[i]'hlt = c at *
      have HN := Lib.hid hnext
      have hcb := c.toNat_lt
      clear hnext
      by_cases h10 : c = 10
      · have hx10 : (c.toNat : Int) = 10 := by rw [h10]; rfl
        have h1 := HN.out
        rw [if_pos h10] at h1
        have H1 := Lib.hid h1
        clear h1 h10
        go_wp2_with fail
        go_roundg g
        case measure => omega
        case rel => exact ⟨i + 1, b + 1, by omega, by omega, by go_num, by go_num, rfl, H1⟩
      · have hx10 : ¬ (c.toNat : Int) = 10 := fun e => h10 (UInt8.toNat_inj.1 (by show c.toNat = 10; omega))
        have h1 := HN.out
        rw [if_neg h10] at h1
        have H1 := Lib.hid h1
        clear h1 h10
        go_wp2_with fail
        go_roundg g
        case measure => omega
        case rel => exact ⟨i + 1, b, by omega, by omega, by go_num, rfl, rfl, H1⟩
theorem own_old {w w2 : World} {B : Nat} {v : Value} {n : Nat} {xs : List Value} (h : w.ownsRow B 5 1 v n xs) (hb : Below w.heap.size w w2) : w2.ownsRow B 5 1 v n xs := by
  refine ⟨h.1, ?_⟩
  rcases h.2 with h0 | ⟨g, cap, cur, hv, hB, hg, rest⟩
  · exact .inl h0
  · exact .inr ⟨g, cap, cur, hv, hB, (hb.block g (Array.getElem?_eq_some_iff.1 hg).1).trans hg, rest⟩
/-- What the loop of Token keeps. -/
structure TI (w : World) (k : Nat) (s : ByteArray) (u : Nat) (o : List UInt8) (v : Value) (wr : World) : Prop where
  tk : dm.Tk (dm.inS (dm.setOf k)) (dm.rv k) s.data.toList 0 u o
  own : wr.ownsRow w.heap.size 5 1 v o.length (Lib.byteCells o)
  bel : Below w.heap.size w wr
  le : o.length ≤ u
theorem TI.next {w w1 w2 : World} {k : Nat} {s : ByteArray} {u n : Nat} {o : List UInt8} {v v' : Value} (h : TI w k s u o v w1) (hb : Below w.heap.size w1 w2) (x : UInt8) (hown : w2.ownsRow w.heap.size 5 1 v' (o.length + 1) (Lib.byteCells o ++ [.int .u8 (x.toNat : Int)])) (hn : 1 ≤ n) (htk : dm.Tk (dm.inS (dm.setOf k)) (dm.rv k) s.data.toList 0 (u + n) (o ++ [x])) : TI w k s (u + n) (o ++ [x]) v' w2 := by
  refine ⟨htk, ?_, h.bel.trans hb, by have := h.le; simp; omega⟩
  have e : Lib.byteCells (o ++ [x]) = Lib.byteCells o ++ [.int .u8 (x.toNat : Int)] := by simp [Lib.byteCells]
  rw [e, List.length_append]
  exact hown
def TokOut (k : Nat) (s : ByteArray) (w : World) (e : Ending) (w' : World) : Prop :=
  e = .returned (.tuple #[.string ⟨(dm.tok k s.data.toList).1.toArray⟩, .int .i64 ((dm.tok k s.data.toList).2 : Int)]) ∧ Below w.heap.size w w'
set_option maxRecDepth 100000 in
set_option maxHeartbeats 2000000 in
theorem token5 (k : Nat) (hk : k ≤ 4) (s : ByteArray) (hs : s.size ≤ 5000) (w : World) :
    Calls Tryz.prog 87 #[.int .i64 k, .string s] w (TokOut k s w) := by
  have hll : s.data.toList.length = s.size := by simp
  have hset : dm.setOf k ≤ 13 := by
    obtain rfl | rfl | rfl | rfl | rfl : k = 0 ∨ k = 1 ∨ k = 2 ∨ k = 3 ∨ k = 4 := by omega
    all_goals decide
  go_enter Tryz.func87, Tryz.ntmps87
  go_wp2_with fail
  go_loopg [5, 6] s.size (fun g s5 s6 wr => ∃ (u : Nat) (o : List UInt8), u + g = s.size ∧ s5 = .int .i64 u ∧ Hid (TI w k s u o s6 wr))
  case atStart => exact ⟨0, [], by omega, rfl, Lib.hid ⟨dm.Tk.start _ _ _ _ (Nat.zero_le _), World.ownsRow_nil _ _ _ _, Below.refl _ _, Nat.le_refl _⟩⟩
  case round =>
    obtain ⟨u, o, hu, rfl, hI⟩ := hrel
    have hol := hI.out.le
    have hsz := hI.out.bel.size
    have HOWN := Lib.hid hI.out.own
    obtain ⟨n, hn⟩ : ∃ n, o.length = n := ⟨_, rfl⟩
    have HN := Lib.hid hn
    rw [hn] at hol HOWN
    cases gk with
    | zero =>
      have hul : ¬ (u : Int) < (s.size : Int) := by omega
      have HT := Lib.hid (hI.out.tk.end (by omega))
      have hcv := own_str hI.out.own
      have HB := Lib.hid hI.out.bel
      clear hI hn hol hsz HOWN
      go_wp2_with fail
      go_ret2
      refine ⟨?_, HB.out⟩
      have h1 := HT.out
      rw [List.drop_zero] at h1
      unfold dm.tok
      rw [h1]
      rfl
    | succ g =>
      have hlt : u < s.size := by omega
      have hul : (u : Int) < (s.size : Int) := by omega
      have hlu : u < s.data.toList.length := by omega
      obtain ⟨c, hc⟩ : ∃ c, s[u]'hlt = c := ⟨_, rfl⟩
      have HC := Lib.hid (show s.data.toList[u] = c from hc)
      have hcb := c.toNat_lt
      have HIN := Lib.hid (in12 (dm.setOf k) hset c)
      have HI := Lib.hid hI.out
      clear hn hI
      by_cases h92 : c = 92
      · have h92z : (c.toNat : Int) = 92 := by rw [h92]; rfl
        have H92 := Lib.hid h92
        clear h92
        by_cases hlt1 : u + 1 < s.size
        · have hul1 : (u : Int) + 1 < (s.size : Int) := by omega
          obtain ⟨d, hd⟩ : ∃ d, s[u + 1]'hlt1 = d := ⟨_, rfl⟩
          have hlu1 : u + 1 < s.data.toList.length := by omega
          have HD := Lib.hid (show s.data.toList[u + 1] = d from hd)
          have hdb := d.toNat_lt
          have HE := Lib.hid (esc11 k hk d wr)
          by_cases hr : dm.rv k d = 0
          · have HX : Hid (∀ v1 w1, w1.ownsRow w.heap.size 5 1 v1 (n + 1) (Lib.byteCells o ++ [.int .u8 92]) → Below w.heap.size wr w1 → TI w k s (u + 1) (o ++ [c]) v1 w1) := Lib.hid fun v1 w1 h1 h2 =>
              HI.out.next h2 c (by rw [HN.out, h92z]; exact h1) (Nat.le_refl _) (by
                have := HI.out.tk.one hlu (.inr ⟨by rw [HC.out]; exact H92.out, .inr ⟨hlu1, by rw [HD.out]; exact hr⟩⟩)
                rw [HC.out] at this
                exact this)
            have hr2 : decide (dm.rv k d ≠ 0) = false := by simp [hr]
            rw [hr2] at HE
            clear hr hr2
            go_wp2_with fail
            refine HE.out.mono ?_
            rintro e w2 ⟨d2, rfl, hd2, rfl⟩
            clear hd2
            go_wp2_with (at_builtin; refine esc.app_lit rfl _ _ rfl w.heap.size u6 n (Lib.byteCells o) rfl (HOWN.out.alloc _) wr.heap.size 1 1 #[.int .u8 92] rfl (heap_alloc_new wr _) rfl (by simp [Value.oneCell']) (by omega) (by omega) (by simp; omega) ?_; intro v1 w1 hown1 hgr1)
            have hb1 : Below w.heap.size wr w1 := ((Below.refl _ wr).alloc (by omega) _).grown hgr1 (by simp; omega) (fun q hq => (World.ownsRow.lt HOWN.out q hq).1)
            go_roundg g
            case measure => omega
            case rel => exact ⟨u + 1, o ++ [c], by omega, by go_num, Lib.hid (HX.out _ _ hown1 hb1)⟩
          · have HX : Hid (∀ v1 w1, w1.ownsRow w.heap.size 5 1 v1 (n + 1) (Lib.byteCells o ++ [.int .u8 ((dm.rv k d).toNat : Int)]) → Below w.heap.size wr w1 → TI w k s (u + 2) (o ++ [dm.rv k d]) v1 w1) := Lib.hid fun v1 w1 h1 h2 =>
              HI.out.next h2 (dm.rv k d) (by rw [HN.out]; exact h1) (by omega) (by
                have := HI.out.tk.two hlu1 (by rw [HC.out]; exact H92.out) (by rw [HD.out]; exact hr)
                rw [HD.out] at this
                exact this)
            obtain ⟨x, hx⟩ : ∃ x, dm.rv k d = x := ⟨_, rfl⟩
            have hr2 : decide (dm.rv k d ≠ 0) = true := by simp [hr]
            have HR := Lib.hid hr
            rw [hr2] at HE
            rw [hx] at HX HE HR
            obtain ⟨g2, rfl⟩ : ∃ g2, g = g2 + 1 := ⟨g - 1, by omega⟩
            clear hr hr2 hx
            go_wp2_with fail
            refine HE.out.mono ?_
            rintro e w2 ⟨d2, rfl, hd2, rfl⟩
            obtain rfl := hd2 HR.out
            clear hd2
            go_wp2_with (at_builtin; refine esc.app_lit rfl _ _ rfl w.heap.size u6 n (Lib.byteCells o) rfl (HOWN.out.alloc _) wr.heap.size 1 1 #[.int .u8 (d2.toNat : Int)] rfl (heap_alloc_new wr _) rfl (by simp [Value.oneCell']) (by omega) (by omega) (by simp; omega) ?_; intro v1 w1 hown1 hgr1)
            have hb1 : Below w.heap.size wr w1 := ((Below.refl _ wr).alloc (by omega) _).grown hgr1 (by simp; omega) (fun q hq => (World.ownsRow.lt HOWN.out q hq).1)
            go_roundg g2
            case measure => omega
            case rel => exact ⟨u + 2, o ++ [d2], by omega, by go_num, Lib.hid (HX.out _ _ hown1 hb1)⟩
        · have hul1 : ¬ (u : Int) + 1 < (s.size : Int) := by omega
          have HX : Hid (∀ v1 w1, w1.ownsRow w.heap.size 5 1 v1 (n + 1) (Lib.byteCells o ++ [.int .u8 92]) → Below w.heap.size wr w1 → TI w k s (u + 1) (o ++ [c]) v1 w1) := Lib.hid fun v1 w1 h1 h2 =>
            HI.out.next h2 c (by rw [HN.out, h92z]; exact h1) (Nat.le_refl _) (by
              have := HI.out.tk.one hlu (.inr ⟨by rw [HC.out]; exact H92.out, .inl (by omega)⟩)
              rw [HC.out] at this
              exact this)
          go_wp2_with (at_builtin; refine esc.app_lit rfl _ _ rfl w.heap.size u6 n (Lib.byteCells o) rfl (HOWN.out.alloc _) wr.heap.size 1 1 #[.int .u8 92] rfl (heap_alloc_new wr _) rfl (by simp [Value.oneCell']) (by omega) (by omega) (by simp; omega) ?_; intro v1 w1 hown1 hgr1)
          have hb1 : Below w.heap.size wr w1 := ((Below.refl _ wr).alloc (by omega) _).grown hgr1 (by simp; omega) (fun q hq => (World.ownsRow.lt HOWN.out q hq).1)
          go_roundg g
          case measure => omega
          case rel => exact ⟨u + 1, o ++ [c], by omega, by go_num, Lib.hid (HX.out _ _ hown1 hb1)⟩
      · have h92z : ¬ (c.toNat : Int) = 92 := fun e => h92 (UInt8.toNat_inj.1 (by show c.toNat = 92; omega))
        have H92 := Lib.hid h92
        clear h92
        have HS := Lib.hid (setOf13 k hk wr)
        cases hp : dm.inS (dm.setOf k) c with
        | true =>
          have HX : Hid (∀ v1 w1, w1.ownsRow w.heap.size 5 1 v1 (n + 1) (Lib.byteCells o ++ [.int .u8 (c.toNat : Int)]) → Below w.heap.size wr w1 → TI w k s (u + 1) (o ++ [c]) v1 w1) := Lib.hid fun v1 w1 h1 h2 =>
            HI.out.next h2 c (by rw [HN.out]; exact h1) (Nat.le_refl _) (by
              have := HI.out.tk.one hlu (.inl ⟨by rw [HC.out]; exact H92.out, by rw [HC.out]; exact hp⟩)
              rw [HC.out] at this
              exact this)
          rw [hp] at HIN
          clear hp
          go_wp2_with fail
          refine HS.out.mono ?_
          rintro e w2 ⟨rfl, hb2⟩
          have hs2 := hb2.size
          have HB2 := Lib.hid hb2
          have HOWN2 := Lib.hid (own_old HOWN.out hb2.toBelow)
          clear hb2
          go_wp2_with fail
          refine (HIN.out w2).mono ?_
          rintro e w3 ⟨rfl, rfl⟩
          go_wp2_with (at_builtin; refine esc.app_lit rfl _ _ rfl w.heap.size u6 n (Lib.byteCells o) rfl (HOWN2.out.alloc _) w2.heap.size 1 1 #[.int .u8 (c.toNat : Int)] rfl (heap_alloc_new w2 _) rfl (by simp [Value.oneCell']) (by omega) (by omega) (by simp; omega) ?_; intro v1 w1 hown1 hgr1)
          have hb1 : Below w.heap.size w2 w1 := ((Below.refl _ w2).alloc (by omega) _).grown hgr1 (by simp; omega) (fun q hq => (World.ownsRow.lt HOWN2.out q hq).1)
          go_roundg g
          case measure => omega
          case rel => exact ⟨u + 1, o ++ [c], by omega, by go_num, Lib.hid (HX.out _ _ hown1 ((HB2.out.toBelow.mono (by omega)).trans hb1))⟩
        | false =>
          have HT := Lib.hid (HI.out.tk.stop hlu (by rw [HC.out]; exact H92.out) (by rw [HC.out]; exact hp))
          rw [hp] at HIN
          clear hp
          go_wp2_with fail
          refine HS.out.mono ?_
          rintro e w2 ⟨rfl, hb2⟩
          have hcv : (convert 51 9 u6).run Tryz.prog w2 = .ok (.string ⟨o.toArray⟩) w2 := own_str (own_old HI.out.own hb2.toBelow)
          have HB2 : Hid (Below w.heap.size w w2) := Lib.hid (HI.out.bel.trans (hb2.toBelow.mono (by omega)))
          clear hb2
          go_wp2_with fail
          refine (HIN.out w2).mono ?_
          rintro e w3 ⟨rfl, rfl⟩
          go_wp2_with fail
          go_ret2
          refine ⟨?_, HB2.out⟩
          have h1 := HT.out
          rw [List.drop_zero] at h1
          unfold dm.tok
          rw [h1]
          rfl
end Go.Proofs.YtlcbcgillekphaaGreatDoor.spe
