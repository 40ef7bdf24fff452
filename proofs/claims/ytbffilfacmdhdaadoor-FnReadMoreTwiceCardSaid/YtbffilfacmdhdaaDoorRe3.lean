/-
  Proved: the contracts of io.ReadFull, expand and ReadNAppend.
  Conditions: a buffered reader that has at least so many bytes left; a row of bytes.
-/
import Derived.Test.YtbffilfacmdhdaaDoorRe2
namespace Go.Proofs.YtbffilfacmdhdaaDoor.dec
open Go.RowKit Mem rw
set_option linter.unusedVariables false
set_option linter.unusedSimpArgs false

theorem full18 (G : Cfg) (hG : Base G) (X B P : Nat) (w : World) (l : List UInt8) (r : Nat) (left : List UInt8) (at_ : Nat) (lb ls : Int) (h : BX G X B w l r left at_ lb ls)
    (d : List UInt8) (cap k c : Nat) (hd : BufAt w P d cap) (hk0 : 0 < k) (hkr : k ≤ (l.drop r ++ left).length) (hk : d.length + k ≤ cap) (hkc : k ≤ c) (hc : c ≤ 9223372036854775807) (hk4 : k < 4096) (hPX : P ≠ X) (hPB : P ≠ B) (hPR : P ≠ G.R) (hPlo : G.w0.heap.size ≤ P) :
    Calls Tryd.prog 18 #[.iface 82 (.pointer (some ⟨X, 0, none⟩)), .slice (some ⟨P, d.length, none⟩) k c] w (RaOut G X B P w (l.drop r ++ left) d cap k) := by
  have HC := Lib.hid (least29 G hG X B P w l r left at_ lb ls h d cap k c hd hk0 hkr hk hkc hc hk4 hPX hPB hPR hPlo)
  obtain ⟨o, ho⟩ : ∃ o, d.length = o := ⟨_, rfl⟩
  rw [ho] at HC ⊢
  clear h hd hG hkr hk ho
  go_enter Tryd.func18, Tryd.ntmps18
  go_wp2_with fail
  refine HC.out.mono ?_
  rintro e w2 ⟨rfl, h2⟩
  have H2 := Lib.hid h2.out
  clear h2
  go_wp2_with fail
  go_ret2
  exact ⟨rfl, H2⟩
def ExOut (w : World) (A : Nat) (l : List UInt8) (N : Nat) (e : Ending) (w' : World) : Prop :=
  ∃ A' cap', e = .returned (.slice (some ⟨A', 0, none⟩) N cap') ∧ Hid (BufAt w' A' l cap' ∧ N ≤ cap' ∧ But [] w w' ∧ (A' = A ∨ A' = w.heap.size))
theorem made_row (w W : World) (n : Nat) (hn : n ≤ 9223372036854775807) (hb : W.heap[w.heap.size]? = some (.cells (madeCells #[.int .u8 0] n) 5 (0, 0))) : BufAt W w.heap.size [] n := by
  refine ⟨fun j x hx => by simp at hx, fun j hj => ?_, fun j hj => frozen_of_row _ _ j _ _ hb, Nat.zero_le _, (Array.getElem?_eq_some_iff.1 hb).1, hn⟩
  rw [cell_of_row _ _ j _ _ _ hb]
  simp [madeCells, hj]
set_option maxRecDepth 100000 in
theorem expand17 (A cap n N : Nat) (l : List UInt8) (w : World) (h : BufAt w A l cap) (hl : l.length = n) (hN : n < N) (hN2 : N ≤ 100000) :
    Calls Tryd.prog 17 #[.slice (some ⟨A, 0, none⟩) n cap, .int .i64 N, .bool true] w (ExOut w A l N) := by
  have hN0 : ¬ (N : Int) = 0 := by omega
  have hlim := h.lim
  by_cases hcap : cap < N
  · have hci : (cap : Int) < (N : Int) := by omega
    have hmk := make_row w N N (Nat.le_refl _) (by omega)
    obtain ⟨W1, hW1⟩ : ∃ W1, w.alloc (.cells (madeCells #[.int .u8 0] N) 5) = W1 := ⟨_, rfl⟩
    have hb1 : But [] w W1 := hW1 ▸ (But.refl [] w).alloc _
    have hrow : W1.heap[w.heap.size]? = some (.cells (madeCells #[.int .u8 0] N) 5 (0, 0)) := by rw [← hW1]; exact heap_alloc_new w _
    have hm := made_row w W1 N (by omega) hrow
    have hA1 := h.but hb1 (by simp)
    rw [hW1] at hmk
    have hcp := copy_row W1 w.heap.size 0 N N A 0 n cap n l (by omega) (fun j x hx => by rw [Nat.zero_add]; exact hA1.bytes j x hx) hl (fun j hj => by rw [Nat.zero_add]; exact hm.room j hj) (fun j hj => by rw [Nat.zero_add]; exact hm.free j hj) 3
    have htk : l.take n = l := List.take_of_length_le (by omega)
    rw [htk] at hcp
    have hput := hm.put l (by simp; omega)
    rw [List.length_nil, List.nil_append] at hput
    obtain ⟨W2, hW2⟩ : ∃ W2, W1.setCells w.heap.size 0 (Lib.byteCells l) = W2 := ⟨_, rfl⟩
    rw [hW2] at hcp hput
    have HF : Hid (BufAt W2 w.heap.size l N ∧ But [] w W2) := Lib.hid ⟨hput.1, hb1.join hput.2 (fun x hx => by cases hx) (fun x hx hlt => by simp at hx; omega)⟩
    clear h hb1 hrow hm hA1 hput hW1 hW2 htk hcap
    go_enter Tryd.func17, Tryd.ntmps17
    go_wp2_with fail
    go_ret
    exact ⟨_, _, rfl, Lib.hid ⟨HF.out.1, Nat.le_refl _, HF.out.2, .inr rfl⟩⟩
  · have hci : ¬ (cap : Int) < (N : Int) := by omega
    have hNc : (N : Int) ≤ (cap : Int) := by omega
    have HF : Hid (BufAt w A l cap ∧ N ≤ cap) := Lib.hid ⟨h, by omega⟩
    clear h hcap
    go_enter Tryd.func17, Tryd.ntmps17
    go_wp2_with fail
    go_ret
    exact ⟨_, _, rfl, Lib.hid ⟨HF.out.1, HF.out.2, But.refl _ _, .inl rfl⟩⟩
def NaOut (G : Cfg) (X B A : Nat) (w : World) (rest d : List UInt8) (k : Nat) (e : Ending) (w' : World) : Prop :=
  ∃ A' cap', e = .returned (.tuple #[.slice (some ⟨A', 0, none⟩) (d.length + k) cap', .nilIface]) ∧ Hid (∃ l r left at_ lb ls, BX G X B w' l r left at_ lb ls ∧ l.drop r ++ left = rest.drop k ∧ BufAt w' A' (d ++ rest.take k) cap' ∧ But [X, B, G.R, A] w w' ∧ G.w0.heap.size ≤ A')
set_option maxRecDepth 100000 in
theorem append9 (G : Cfg) (hG : Base G) (X B A : Nat) (w : World) (l : List UInt8) (r : Nat) (left : List UInt8) (at_ : Nat) (lb ls : Int) (h : BX G X B w l r left at_ lb ls)
    (d : List UInt8) (cap k : Nat) (hd : BufAt w A d cap) (hdl : d.length ≤ 10000) (hkr : k ≤ (l.drop r ++ left).length) (hk4 : k < 4096) (hAX : A ≠ X) (hAB : A ≠ B) (hAR : A ≠ G.R) (hAlo : G.w0.heap.size ≤ A) (hX : X < w.heap.size) (hB : B < w.heap.size) (hR : G.R < w.heap.size) :
    Calls Tryd.prog 9 #[.iface 82 (.pointer (some ⟨X, 0, none⟩)), .slice (some ⟨A, 0, none⟩) d.length cap, .int .i64 k] w (NaOut G X B A w (l.drop r ++ left) d k) := by
  obtain ⟨n, hn⟩ : ∃ n, d.length = n := ⟨_, rfl⟩
  by_cases hk0 : k = 0
  · subst hk0
    have HF : Hid (∃ l' r' left' at' lb' ls', BX G X B w l' r' left' at' lb' ls' ∧ l'.drop r' ++ left' = (l.drop r ++ left).drop 0 ∧ BufAt w A (d ++ (l.drop r ++ left).take 0) cap ∧ But [X, B, G.R, A] w w ∧ G.w0.heap.size ≤ A) := Lib.hid ⟨l, r, left, at_, lb, ls, h, rfl, by simpa using hd, But.refl _ _, hAlo⟩
    rw [hn]
    have HN := Lib.hid hn
    clear h hd hG hn
    go_enter Tryd.func9, Tryd.ntmps9
    go_wp2_with fail
    go_ret2
    exact ⟨A, cap, by rw [HN.out]; rfl, HF⟩
  · have hki : ¬ (k : Int) = 0 := by omega
    obtain ⟨N, hN⟩ : ∃ N, n + k = N := ⟨_, rfl⟩
    have hw : IntKind.i64.wrap ((n : Int) + (k : Int)) = (N : Int) := by rw [IntKind.wrap_i64]; omega
    have HE := Lib.hid (expand17 A cap n N d w hd hn (by omega) (by omega))
    have hbel := h.bel.size
    have HFU : Hid (∀ A' cap' w2, BufAt w2 A' d cap' → N ≤ cap' → But [] w w2 → (A' = A ∨ A' = w.heap.size) → Calls Tryd.prog 18 #[.iface 82 (.pointer (some ⟨X, 0, none⟩)), .slice (some ⟨A', n, none⟩) k (cap' - n)] w2 (RaOut G X B A' w2 (l.drop r ++ left) d cap' k)) := Lib.hid fun A' cap' w2 h1 h2 h3 h4 => by
      have hlim := h1.lim
      have := full18 G hG X B A' w2 l r left at_ lb ls (h.quiet h3) d cap' k (cap' - n) h1 (by omega) hkr (by omega) (by omega) (by omega) hk4 (by rcases h4 with e | e; rw [e]; exact hAX; omega) (by rcases h4 with e | e; rw [e]; exact hAB; omega) (by rcases h4 with e | e; rw [e]; exact hAR; omega) (by rcases h4 with e | e <;> omega)
      rw [hn] at this
      exact this
    rw [hn]
    have HN := Lib.hid hn
    have hNk : N - n = k := by omega
    have hnN : (n : Int) ≤ (N : Int) := by omega
    have HNN := Lib.hid hN
    clear h hd hG hn hk0 hN
    go_enter Tryd.func9, Tryd.ntmps9
    go_wp2_with fail
    refine HE.out.mono ?_
    rintro e w2 ⟨A', cap', rfl, hE⟩
    obtain ⟨h1, h2, h3, h4⟩ := hE.out
    have HC := Lib.hid (HFU.out A' cap' w2 h1 h2 h3 h4)
    have HB2 := Lib.hid (And.intro h3 h4)
    have hcn : ¬ cap' = n := by have := HNN.out; omega
    clear hE h1 h3 h4 HFU
    go_wp2_with fail
    refine HC.out.mono ?_
    rintro e w3 ⟨rfl, h5⟩
    have H5 := Lib.hid h5.out
    clear h5
    go_wp2_with fail
    go_ret2
    refine ⟨A', cap', by rw [HN.out, HNN.out]; rfl, Lib.hid ?_⟩
    obtain ⟨l', r', left', at', lb', ls', k1⟩ := H5.out
    obtain ⟨b3, b4⟩ := HB2.out
    exact ⟨l', r', left', at', lb', ls', k1.bx, k1.rs, k1.dst, b3.join k1.but (fun x hx => by cases hx) (fun x hx hlt => by
      simp only [List.mem_cons, List.not_mem_nil, or_false] at hx ⊢
      rcases hx with e | e | e | e
      · exact .inl e
      · exact .inr (.inl e)
      · exact .inr (.inr (.inl e))
      · rcases b4 with e2 | e2
        · exact .inr (.inr (.inr (e.trans e2)))
        · omega), by rcases b4 with e2 | e2 <;> omega⟩
end Go.Proofs.YtbffilfacmdhdaaDoor.dec
