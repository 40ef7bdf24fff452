/-
  Proved: the contract of spec.Hex.
  Conditions: texts of at most 100000 bytes.
-/
import Derived.Test.YtdlimgghcpbkcaaShaQ
import Derived.Deep.RegionLaw
namespace Go.Proofs.Ytdlimgghcpbkcaa.sha
open Go.RowKit Mem Go.Great
set_option linter.unusedVariables false

theorem hex_index (k : Nat) (hk : k < 16) (W : World) : (Instr.index 9 (.string ⟨#[48, 49, 50, 51, 52, 53, 54, 55, 56, 57, 97, 98, 99, 100, 101, 102]⟩) (.int .u8 (k : Int))).run Try.prog W = .ok (.int .u8 ((Lib.Hx.digit k).toNat : Int)) W := by
  obtain rfl | rfl | rfl | rfl | rfl | rfl | rfl | rfl | rfl | rfl | rfl | rfl | rfl | rfl | rfl | rfl : k = 0 ∨ k = 1 ∨ k = 2 ∨ k = 3 ∨ k = 4 ∨ k = 5 ∨ k = 6 ∨ k = 7 ∨ k = 8 ∨ k = 9 ∨ k = 10 ∨ k = 11 ∨ k = 12 ∨ k = 13 ∨ k = 14 ∨ k = 15 := by omega
  all_goals kernel_rfl
theorem lit2 (w : World) (a b : UInt8) : ∀ j x, [a, b][j]? = some x → (w.alloc (.cells #[.int .u8 (a.toNat : Int), .int .u8 (b.toNat : Int)] 5)).cell? ⟨w.heap.size, 0 + j, none⟩ = some (.int .u8 (x.toNat : Int)) := by
  intro j x hx
  rw [cell_of_row _ _ _ _ _ _ (Go.heap_alloc_new w _), Nat.zero_add]
  have hj : j < 2 := (List.getElem?_eq_some_iff.1 hx).1
  obtain rfl | rfl : j = 0 ∨ j = 1 := by omega
  all_goals
    obtain rfl := Option.some.inj hx
    rfl
theorem encode_snoc (l : List UInt8) (b : UInt8) : Lib.Hx.encode (l ++ [b]) = Lib.Hx.encode l ++ [Lib.Hx.digit (b.toNat / 16), Lib.Hx.digit (b.toNat % 16)] := by simp [Lib.Hx.encode]
theorem encode_length (l : List UInt8) : (Lib.Hx.encode l).length = 2 * l.length := by
  induction l with
  | nil => rfl
  | cons a r ih =>
    have : Lib.Hx.encode (a :: r) = [Lib.Hx.digit (a.toNat / 16), Lib.Hx.digit (a.toNat % 16)] ++ Lib.Hx.encode r := by simp [Lib.Hx.encode]
    rw [this, List.length_append, ih]
    simp; omega

theorem step_app_buf {w : World} {ops : Array Oper} {o : Oper} {a : Act} {K : Act → World → Prop} {Q : Exit → Act → World → Prop} {E : Prop} (hgd : o.guard = none) (s x : Operand)
    (ho : o.op = .call { callee := .builtin .append, args := #[s, x], argTypes := #[50, 50] }) (A n cap : Nat) (l : List UInt8) (hs : a.eval s = .slice (some ⟨A, 0, none⟩) n cap) (hn : l.length = n) (hbuf : BufAt w A l cap)
    (B p m c : Nat) (y : List UInt8) (hx : a.eval x = .slice (some ⟨B, p, none⟩) m c) (hy : ∀ j x, y[j]? = some x → w.cell? ⟨B, p + j, none⟩ = some (.int .u8 (x.toNat : Int))) (hm : y.length = m) (hlim : n + m ≤ 70368744177664)
    (h : ∀ g cap' w', Hid (BufAt w' g (l ++ y) cap') → Hid (But [A] w w') → (g = A ∨ g = w.heap.size) → K (a.put o.dst (.slice (some ⟨g, 0, none⟩) (n + m) cap')) w') : if Region.wanted o (yielded ops a.tmps) = true then Oper.wp Try.prog o a w K Q else E := by
  subst hn
  obtain ⟨g, cap', w', hr, hb, hbut, hg⟩ := hbuf.append_row B p m c y hy hm hlim o.type
  have hw : Region.wanted o (yielded ops a.tmps) = true := by simp [Region.wanted, hgd]
  rw [if_pos hw]
  unfold Oper.wp execOp
  simp only [ho, resolve, invoke, builtin, Sem.run_bind, Sem.run_pure, Result.andThen_ok, List.map_toArray, List.map_cons, List.map_nil, hs, hx, hr]
  exact h g cap' w' (Lib.hid hb) (Lib.hid hbut) hg

theorem own_next' {w wr w2 : World} {base g g2 : Nat} {o : Obj} (hb : Below base w wr) (hg : base ≤ g) (hB2 : Hid (But [g] (wr.alloc o).drew w2)) (hg2 : g2 = g ∨ g2 = (wr.alloc o).drew.heap.size) (hsz : base ≤ wr.heap.size) : base ≤ g2 ∧ Below base w w2 :=
  own_next hb hg (show Hid (But [g] (wr.alloc o) w2) from Lib.hid (((But.refl [g] (wr.alloc o)).drew).trans hB2.out)) hg2 hsz

set_option maxRecDepth 100000 in
set_option maxHeartbeats 8000000 in
theorem hex12 (s : ByteArray) (hsz : s.size ≤ 100000) (w : World) :
    Calls Try.prog 12 #[.string s] w fun e w' => e = .returned (.string ⟨(Lib.Hx.encode s.data.toList).toArray⟩) ∧ Below w.heap.size w w' := by
  obtain ⟨n, hn⟩ : ∃ n, s.size = n := ⟨_, rfl⟩
  have hmk := make_row w 0 (2 * n) (by omega) (by omega)
  have hd : BufAt (w.alloc (.cells (madeCells #[.int .u8 0] (2 * n)) 5)) w.heap.size [] (2 * n) := by
    obtain ⟨m1, m2⟩ := made_cells w (2 * n)
    exact ⟨fun j x h => by simp at h, fun j hj => by rw [m1 j hj]; rfl, fun j _ => m2 j, by simp, by simp, by omega⟩
  have HD := Lib.hid hd
  have c2 : ((2 * n : Nat) : Int) = 2 * (n : Int) := by omega
  rw [c2] at hmk
  have HN := Lib.hid hn
  have B0 : Hid (Below w.heap.size w (w.alloc (.cells (madeCells #[.int .u8 0] (2 * n)) 5))) := Lib.hid ((But.refl [] w).alloc _).toBelow
  obtain ⟨w1, hw1⟩ : ∃ w1, w.alloc (.cells (madeCells #[.int .u8 0] (2 * n)) 5) = w1 := ⟨_, rfl⟩
  rw [hw1] at hmk HD B0
  replace hmk : (Instr.makeSlice 50 (.int .i64 0) (.int .i64 (2 * (n : Int)))).run Try.prog w = .ok (.slice (some ⟨w.heap.size, 0, none⟩) 0 (2 * n)) w1 := hmk
  rw [hn] at hsz
  clear hd hw1 c2
  go_enter Try.func12, Try.ntmps12
  go_wp2_with (fail)
  clear hn
  go_loopw [3, 4] (fun v i wr => ∃ g c t : Nat, t ≤ n ∧ v = .slice (some ⟨g, 0, none⟩) (2 * t) c ∧ i = .int .i64 t ∧ Hid (BufAt wr g (Lib.Hx.encode (s.data.toList.take t)) c ∧ w.heap.size ≤ g ∧ Below w.heap.size w wr)) (fun _ i _ => n - (intOf i).toNat)
  case atStart => exact ⟨w.heap.size, 2 * n, 0, by omega, rfl, rfl, Lib.hid ⟨HD.out, Nat.le_refl _, B0.out⟩⟩
  case round =>
    clear hmk HD B0
    obtain ⟨g, c, t, ht, rfl, rfl, J⟩ := hrel
    have hnn := HN.out
    by_cases hlt : t < n
    · have hts : t < s.size := by omega
      obtain ⟨b, hb⟩ : ∃ b, s[t]'hts = b := ⟨_, rfl⟩
      have hbt := b.toNat_lt
      obtain ⟨hi, hhi⟩ : ∃ hi, b.toNat / 16 = hi := ⟨_, rfl⟩
      obtain ⟨lo, hlo⟩ : ∃ lo, b.toNat % 16 = lo := ⟨_, rfl⟩
      have x1 := hex_index hi (by omega)
      have x2 := hex_index lo (by omega)
      have q1 : (b.toNat : Int) / 16 = (hi : Int) := by omega
      have q2 : bits .and .u8 (b.toNat : Int) 15 = (lo : Int) := by
        have := bits_mask .u8 8 (by decide) wraps_u8 4 (by decide) (b.toNat : Int) (by omega) (by omega)
        rw [show ((15 : Int)) = 2 ^ 4 - 1 by decide, this]
        omega
      have hsn : Lib.Hx.encode (s.data.toList.take (t + 1)) = Lib.Hx.encode (s.data.toList.take t) ++ [Lib.Hx.digit hi, Lib.Hx.digit lo] := by
        have hpl : t < s.data.toList.length := by simpa using hts
        rw [List.take_succ_eq_append_getElem hpl, encode_snoc]
        have e : s.data.toList[t] = b := by rw [← hb]; rfl
        rw [e, hhi, hlo]
      have hlen : (Lib.Hx.encode (s.data.toList.take t)).length = 2 * t := by rw [encode_length, List.length_take]; simp; omega
      have HSN := Lib.hid hsn
      have HLEN := Lib.hid hlen
      have tn : (t : Int) < (n : Int) := by omega
      have t0 : (0 : Int) ≤ (t : Int) := by omega
      have b1 : (b.toNat : Int) < 256 := by omega
      clear hsn hlen hhi hlo
      go_wp2
      have hba : BufAt (wr.alloc (.cells #[.int .u8 ((Lib.Hx.digit hi).toNat : Int), .int .u8 ((Lib.Hx.digit lo).toNat : Int)] 5)).drew g (Lib.Hx.encode (s.data.toList.take t)) c := bufDrew (J.out.1.but ((But.refl [] wr).alloc _) (by simp))
      have HBA := Lib.hid hba
      clear hba
      go_region_law (first
        | (refine step_app_buf (w := (wr.alloc (.cells #[.int .u8 ((Lib.Hx.digit hi).toNat : Int), .int .u8 ((Lib.Hx.digit lo).toNat : Int)] 5)).drew) rfl (.tmp 15) (.tmp 26) rfl g (2 * t) c _ (by rfl) HLEN.out HBA.out wr.heap.size 0 2 2 [Lib.Hx.digit hi, Lib.Hx.digit lo] (by rfl) (lit2 wr _ _) rfl (by omega) ?_; intro g3 c3 w3 hb3 hB3 hg3'))
      all_goals
        go_wp2
        obtain ⟨hg3, hbe3⟩ := own_next' J.out.2.2 J.out.2.1 hB3 hg3' (J.out.2.2.size)
        go_roundw
        case rel => exact ⟨g3, c3, t + 1, by omega, by go_num, by go_num, Lib.hid ⟨by rw [HSN.out]; exact hb3.out, hg3, hbe3⟩⟩
        case measure => simp [intOf]; omega
    · obtain rfl : t = n := by omega
      have hcv := BufAt.str J.out.1
      have hl : (Lib.Hx.encode (s.data.toList.take t)).length = 2 * t := by rw [encode_length, List.length_take]; simp; omega
      have ha : s.data.toList.take t = s.data.toList := List.take_of_length_le (by simp; omega)
      rw [hl, ha] at hcv
      clear hl ha
      go_wp2
      go_ret
      exact ⟨rfl, J.out.2.2⟩
end Go.Proofs.Ytdlimgghcpbkcaa.sha
