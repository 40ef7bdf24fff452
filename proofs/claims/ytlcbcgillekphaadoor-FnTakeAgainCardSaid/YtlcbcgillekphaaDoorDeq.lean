/-
  Proved: the contracts of the decoder's ensure and take.
  Conditions: a decoder in memory.
-/
import Derived.Test.YtlcbcgillekphaaDoorDep
import Derived.Test.YtlcbcgillekphaaDoorSev
namespace Go.Proofs.YtlcbcgillekphaaDoor.dec
open Go.RowKit Mem rw
set_option linter.unusedVariables false

theorem bufv_len {G : Cfg} {L : Lay} {w : World} (h : DL G L w) : ∃ a c, L.bufv = .slice a L.len c := by
  cases hn : L.nb with
  | false => exact ⟨_, _, bufv_of hn⟩
  | true =>
    have := (h.nbz hn).1
    exact ⟨none, 0, by unfold Lay.bufv; rw [hn, this]; rfl⟩
set_option maxRecDepth 100000 in
theorem ensure (G : Cfg) (hG : Base G) (L : Lay) (w : World) (h : DL G L w) (n : Nat) (hn : n ≤ 5000) (hn1 : 1 ≤ n) :
    Calls Tryd.prog 32 #[.pointer (some ⟨G.D, 0, none⟩), .int .i64 n] w (EnsOut G L w n) := by
  obtain ⟨c0, c1, c2, c3, c4, c5, c6, c7, c8, c9⟩ := h.cells
  obtain ⟨a, c, hbv⟩ := bufv_len h
  rw [hbv] at c1
  have hl := h.lenle hG
  have h1l := h.r1l
  have hb := h.blen
  have hpos : L.pos = L.base + L.r1 := rfl
  obtain ⟨s, hs⟩ : ∃ s, L.r1 + n = s := ⟨_, rfl⟩
  have hw : IntKind.i64.wrap ((L.r1 : Int) + (n : Int)) = (s : Int) := by rw [IntKind.wrap_i64]; omega
  have hs0 : (0 : Int) ≤ (s : Int) := by omega
  by_cases hlt : s ≤ L.len
  · have hsl : (s : Int) ≤ (L.len : Int) := by omega
    have hnb : L.nb = false := by
      cases hb : L.nb with
      | false => rfl
      | true => have := (h.nbz hb).1; omega
    have HF : Hid (∀ q, EnsOut G L w n (.returned (.bool true)) (w.drewN q)) := Lib.hid fun q => ⟨by rw [show decide (L.pos + n ≤ G.T.length) = true by simp; omega], Lib.hid ⟨L, h.drewN q, Go.drewN G L w q, ⟨⟨rfl, rfl, rfl, hnb, rfl, rfl⟩, rfl, rfl, rfl, rfl, Nat.le_refl _⟩, ⟨hnb, by omega⟩, fun _ => by omega, fun e => by omega⟩⟩
    clear h hbv hpos hs hnb hb
    go_enter Tryd.func32, Tryd.ntmps32
    go_wp2
    go_quiet (fail)
    go_wp2
    go_ret
    exact HF.out nq
  · have hsl : ¬ (s : Int) ≤ (L.len : Int) := by omega
    have HE := Lib.hid (fun q => ensure1 G hG L (w.drewN q) (h.drewN q) n hn (by omega))
    have HF : Hid (∀ q e w', EnsOut G L (w.drewN q) n e w' → EnsOut G L w n e w') := Lib.hid fun q e w' hE => ⟨hE.1, Lib.hid (by
      obtain ⟨L', d1, d2, d3⟩ := hE.2.out
      exact ⟨L', d1, (Go.drewN G L w q).trans h d2, d3⟩)⟩
    clear h hbv hpos hs hb
    go_enter Tryd.func32, Tryd.ntmps32
    go_wp2
    go_quiet (fail)
    go_wp2_with fail
    refine (HE.out _).mono ?_
    rintro e w2 hE
    have HE2 := Lib.hid (HF.out _ _ _ hE)
    have he := hE.1
    subst he
    clear hE
    go_wp2
    go_ret
    exact HE2.out
theorem ens1 (G : Cfg) (hG : Base G) (L : Lay) (w : World) (h : DL G L w) :
    Calls Tryd.prog 32 #[.pointer (some ⟨G.D, 0, none⟩), .int .i64 1] w (EnsOut G L w 1) := by
  have := ensure G hG L w h 1 (by omega) (by omega)
  simpa using this
theorem ens2 (G : Cfg) (hG : Base G) (L : Lay) (w : World) (h : DL G L w) :
    Calls Tryd.prog 32 #[.pointer (some ⟨G.D, 0, none⟩), .int .i64 2] w (EnsOut G L w 2) := by
  have := ensure G hG L w h 2 (by omega) (by omega)
  simpa using this
end Go.Proofs.YtlcbcgillekphaaDoor.dec
