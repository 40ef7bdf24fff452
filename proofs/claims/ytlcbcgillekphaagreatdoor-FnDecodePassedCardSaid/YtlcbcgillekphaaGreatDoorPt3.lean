/-
  Proved: laws.FnDecodePassed returns true.
  Conditions: the listed variables are laid.
-/
import Derived.Test.YtlcbcgillekphaaGreatDoorSdo
import Derived.Test.YtlcbcgillekphaaGreatDoorGj
import Derived.Test.YtlcbcgillekphaaGreatDoorGp
import Derived.Test.YtlcbcgillekphaaGreatDoorGq
namespace Go.Proofs.YtlcbcgillekphaaGreatDoor.dec
open Go.RowKit Mem rw ent
set_option linter.unusedVariables false
set_option linter.unusedSimpArgs false

theorem loop_ne (s : ByteArray) : ∀ (n i : Nat) (r : List UInt8), s.size - i = n → r ≠ [] → ByteArray.toList.loop s i r ≠ []
  | 0, i, r, h, hr => by
    rw [ByteArray.toList.loop.eq_def, if_neg (by omega)]
    simpa using hr
  | n + 1, i, r, h, hr => by
    rw [ByteArray.toList.loop.eq_def, if_pos (by omega)]
    exact loop_ne s n (i + 1) _ (by omega) (by simp)
theorem toList_ne (s : ByteArray) (h : 0 < s.size) : s.toList ≠ [] := by
  unfold ByteArray.toList
  rw [ByteArray.toList.loop.eq_def, if_pos h]
  exact loop_ne s _ 1 _ rfl (by simp)
theorem app_list (a b : ByteArray) : (a ++ b).data.toList = a.data.toList ++ b.data.toList := by
  rw [ByteArray.data_append, Array.toList_append]
/-- A row that was made later lies apart from an elder one. -/
theorem ents_far {w w' : World} {B : Nat} {v : Value} {l : List EnP} {S : List Nat} (h : Ents w B v l) (hb : But S w w') (hS : ∀ k ∈ S, k < B) : Ents w' B v l := by
  refine h.but hb (fun k e => ?_) (fun p hp => ⟨fun k e => ?_, fun k e => ?_⟩)
  · intro hk; have := (own_base h.own k e).1; have := hS k hk; omega
  · intro hk; have := (own_base (h.rows p hp).tags k e).1; have := hS k hk; omega
  · intro hk; have := (own_base (h.rows p hp).fields k e).1; have := hS k hk; omega
/-- What the three decodes, and what is made of them, come to. -/
theorem passed_eq (s1 s2 s3 : ByteArray) (hq : s1.data.toList.contains 34 = false) (m : Nat) (hlm : m < s2.size) (hm : s2.size = m + 1) (hl : s2[m]'hlm = 10) (hp : sd.pz s2.data.toList = s2.size) (l1 l2 l3 : List EnP)
    (h1 : l1.map (·.E) = dm.allM (s1 ++ ⟨#[10]⟩).data.toList) (h2 : l2.map (·.E) = dm.allM s3.data.toList) (h3 : l3.map (·.E) = dm.allM ((s1 ++ ⟨#[10]⟩) ++ s2 ++ s3).data.toList) (n : Nat) (hn : n = dm.breaks ((s1 ++ ⟨#[10]⟩) ++ s2).data.toList) :
    l3.map (·.E) = (l1 ++ l2.map (sam.dn n)).map (·.E) := by
  have hll : s2.data.toList.length = s2.size := by simp
  have hB : dm.E10 s2.data.toList := ⟨s2.data.toList.take m, by
    have h4 : s2.data.toList = s2.data.toList.take (m + 1) := by rw [List.take_of_length_le (by omega)]
    conv => lhs; rw [h4, List.take_succ_eq_append_getElem (by omega)]
    congr 2⟩
  have hH : dm.E10 (s1 ++ ⟨#[10]⟩).data.toList := ⟨s1.data.toList, by rw [app_list]⟩
  have hQ : ∀ c ∈ (s1 ++ ⟨#[10]⟩).data.toList, c ≠ 34 := fun c hc e => by
    subst e
    rw [app_list] at hc
    rcases List.mem_append.1 hc with h4 | h4
    · have : s1.data.toList.contains 34 = true := by simpa using h4
      rw [this] at hq; cases hq
    · simp at h4
  have h4 := dm.all_app hH hQ s2.data.toList s3.data.toList hB (by rw [hp, hll])
  rw [h3, app_list _ s3, app_list _ s2, List.append_assoc, h4, List.map_append, h1, List.map_map]
  congr 1
  rw [← h2, List.map_map, hn, app_list _ s2]
  rfl
/-- append where it is guarded, and the guard holds. -/
theorem app_guarded {w w' : World} {ops : Array Oper} {rest : List Oper} {o : Oper} {a : Act} {Q : Exit → Act → World → Prop} (hw : Region.wanted o (yielded ops a.tmps) = true) (s x : Operand) (t u : TypeId)
    (ho : o.op = .call { callee := .builtin .append, args := #[s, x], argTypes := #[t, u] }) (v y r : Value) (hs : a.eval s = v) (hx : a.eval x = y)
    (hr : (Builtin.append_ #[t, u] o.type #[v, y]).run Tryz.prog w = .ok r w') (h : wpList Tryz.prog ops Q rest (a.put o.dst r) w') : wpList Tryz.prog ops Q (o :: rest) a w :=
  wpList_step fun _ hK => by
    rw [if_pos hw]
    unfold Oper.wp execOp
    simp only [ho, resolve, invoke, builtin, Sem.run_bind, Sem.run_pure, Result.andThen_ok, List.map_toArray, List.map_cons, List.map_nil, hs, hx, hr]
    exact hK _ _ h
set_option maxRecDepth 100000 in
set_option maxHeartbeats 2000000 in
/-- Too long a text. -/
theorem law4_long (s1 s2 s3 : ByteArray) (b1 : s1.size ≤ 9223372036854775807) (b2 : s2.size ≤ 9223372036854775807) (b3 : s3.size ≤ 9223372036854775807) (w : World) (h : 3000 < s1.size + s2.size + s3.size) :
    Calls Tryz.prog 4 #[.string s1, .string s2, .string s3] w fun e w' => e = .returned (.bool true) ∧ Below w.heap.size w w' := by
  have hsum : (3000 : Int) < (s1.size : Int) + (s2.size : Int) + (s3.size : Int) := by omega
  by_cases h1 : (2147483647 : Int) < (s1.size : Int)
  · go_enter Tryz.func4, Tryz.ntmps4
    go_wp2_with fail
    go_ret
    exact ⟨rfl, Below.refl _ _⟩
  · by_cases h2 : (2147483647 : Int) < (s2.size : Int)
    · go_enter Tryz.func4, Tryz.ntmps4
      go_wp2_with fail
      go_ret
      exact ⟨rfl, Below.refl _ _⟩
    · by_cases h3 : (2147483647 : Int) < (s3.size : Int)
      · go_enter Tryz.func4, Tryz.ntmps4
        go_wp2_with fail
        go_ret
        exact ⟨rfl, Below.refl _ _⟩
      · go_enter Tryz.func4, Tryz.ntmps4
        go_wp2_with fail
        go_ret
        exact ⟨rfl, Below.refl _ _⟩
set_option maxRecDepth 100000 in
set_option maxHeartbeats 2000000 in
/-- A text that the statement does not speak of. -/
theorem law4_other (s1 s2 s3 : ByteArray) (w : World) (h : s1.size + s2.size + s3.size ≤ 3000) (c1 : Bool) (hc1 : s1.data.toList.contains 34 = c1) (hg : c1 = true ∨ s2.size = 0 ∨ (∃ m, ∃ hlm : m < s2.size, s2.size = m + 1 ∧ s2[m]'hlm ≠ 10) ∨ (∃ m, ∃ hlm : m < s2.size, s2.size = m + 1 ∧ s2[m]'hlm = 10 ∧ sd.pz s2.data.toList ≠ s2.size)) :
    Calls Tryz.prog 4 #[.string s1, .string s2, .string s3] w fun e w' => e = .returned (.bool true) ∧ Below w.heap.size w w' := by
  have hsum : ¬ (3000 : Int) < (s1.size : Int) + (s2.size : Int) + (s3.size : Int) := by omega
  have k1 : ¬ (2147483647 : Int) < (s1.size : Int) := by omega
  have k2 : ¬ (2147483647 : Int) < (s2.size : Int) := by omega
  have k3 : ¬ (2147483647 : Int) < (s3.size : Int) := by omega
  have HH := Lib.hid (sam.has8 s1 (by omega) 34 w c1 hc1)
  have HP := Lib.hid (sd.passed9 s2 (by omega) w)
  clear hc1
  cases c1 with
  | true =>
    clear hg
    go_enter Tryz.func4, Tryz.ntmps4
    go_wp2_with fail
    refine HH.out.mono ?_
    rintro e w1 ⟨rfl, rfl⟩
    dsimp only
    go_wp2_with fail
    go_ret
    exact ⟨rfl, Below.refl _ _⟩
  | false =>
    rcases hg with hg | hg | ⟨m, hlm, hm, hg⟩ | ⟨m, hlm, hm, hg, hp⟩
    · cases hg
    · have hse : s2 = ⟨#[]⟩ := by
        cases s2 with
        | mk d => simp [ByteArray.size] at hg; rw [hg]
      subst hse
      go_enter Tryz.func4, Tryz.ntmps4
      go_wp2_with fail
      refine HH.out.mono ?_
      rintro e w1 ⟨rfl, rfl⟩
      dsimp only
      go_wp2_with fail
      go_ret
      exact ⟨rfl, Below.refl _ _⟩
    · have hne := toList_ne s2 (by omega)
      have hneb : s2.toList.isEmpty = false := by simpa using hne
      obtain ⟨d, hd⟩ : ∃ d, s2[m]'hlm = d := ⟨_, rfl⟩
      rw [hd] at hg
      have hdb := d.toNat_lt
      have hz : ¬ (d.toNat : Int) = 10 := fun e => hg (UInt8.toNat_inj.1 (by show d.toNat = 10; omega))
      have hzb : ((d.toNat : Int) != 10) = true := by simpa using hz
      have hw : IntKind.i64.wrap ((s2.size : Int) - 1) = (m : Int) := by rw [IntKind.wrap_i64]; omega
      have hm1 : (m : Int) < (s2.size : Int) := by omega
      clear hm hg
      go_enter Tryz.func4, Tryz.ntmps4
      go_wp2_with fail
      refine HH.out.mono ?_
      rintro e w1 ⟨rfl, rfl⟩
      dsimp only
      go_wp2_with fail
      go_ret
      exact ⟨rfl, Below.refl _ _⟩
    · have hne := toList_ne s2 (by omega)
      have hneb : s2.toList.isEmpty = false := by simpa using hne
      have hz : ((s2[m]'hlm).toNat : Int) = 10 := by rw [hg]; rfl
      have hzb : (((s2[m]'hlm).toNat : Int) != 10) = false := by rw [hz]; rfl
      have hw : IntKind.i64.wrap ((s2.size : Int) - 1) = (m : Int) := by rw [IntKind.wrap_i64]; omega
      have hm1 : (m : Int) < (s2.size : Int) := by omega
      have hpb : ¬ ((sd.pz s2.data.toList : Nat) : Int) = (s2.size : Int) := by omega
      clear hm hg hp hz
      go_enter Tryz.func4, Tryz.ntmps4
      go_wp2_with fail
      refine HH.out.mono ?_
      rintro e w1 ⟨rfl, rfl⟩
      dsimp only
      go_wp2_with fail
      refine HP.out.mono ?_
      rintro e w1 ⟨rfl, rfl⟩
      dsimp only
      go_wp2_with fail
      go_ret
      exact ⟨rfl, Below.refl _ _⟩
theorem app_size (a b : ByteArray) : (a ++ b).size = a.size + b.size := ByteArray.size_append
set_option maxRecDepth 100000 in
set_option maxHeartbeats 4000000 in
theorem law4_main (s1 s2 s3 : ByteArray) (w : World) (ev : Addr) (hc : Ctx w ev) (ho : Ovr w) (h : s1.size + s2.size + s3.size ≤ 3000) (hq : s1.data.toList.contains 34 = false) (m : Nat) (hlm : m < s2.size) (hm : s2.size = m + 1) (hl : s2[m]'hlm = 10) (hp : sd.pz s2.data.toList = s2.size) :
    Calls Tryz.prog 4 #[.string s1, .string s2, .string s3] w fun e w' => e = .returned (.bool true) ∧ Below w.heap.size w w' := by
  have hsum : ¬ (3000 : Int) < (s1.size : Int) + (s2.size : Int) + (s3.size : Int) := by omega
  have k1 : ¬ (2147483647 : Int) < (s1.size : Int) := by omega
  have k2 : ¬ (2147483647 : Int) < (s2.size : Int) := by omega
  have k3 : ¬ (2147483647 : Int) < (s3.size : Int) := by omega
  have e1 : (s1 ++ ⟨#[10]⟩ : ByteArray).size = s1.size + 1 := app_size _ _
  have e2 : ((s1 ++ ⟨#[10]⟩) ++ s2 : ByteArray).size = s1.size + 1 + s2.size := by rw [app_size, e1]
  have e3 : ((s1 ++ ⟨#[10]⟩) ++ s2 ++ s3 : ByteArray).size = s1.size + 1 + s2.size + s3.size := by rw [app_size, e2]
  have HH := Lib.hid (sam.has8 s1 (by omega) 34 w false hq)
  have HP := Lib.hid (sd.passed9 s2 (by omega) w)
  have HA1 := Lib.hid (all5 (s1 ++ ⟨#[10]⟩) (by omega) none [] 0 w ev hc ho (SzAt.nil w none))
  have HA2 : Hid (∀ w1, Below w.heap.size w w1 → Calls Tryz.prog 5 #[.string s3, .slice none 0 0] w1 (AllOut s3 w1)) := Lib.hid fun w1 hb => all5 s3 (by omega) none [] 0 w1 ev (hc.below hb (Nat.le_refl _)) (ho.below hb (Nat.le_refl _)) (SzAt.nil w1 none)
  have HA3 : Hid (∀ w1, Below w.heap.size w w1 → Calls Tryz.prog 5 #[.string ((s1 ++ ⟨#[10]⟩) ++ s2 ++ s3), .slice none 0 0] w1 (AllOut ((s1 ++ ⟨#[10]⟩) ++ s2 ++ s3) w1)) := Lib.hid fun w1 hb => all5 _ (by omega) none [] 0 w1 ev (hc.below hb (Nat.le_refl _)) (ho.below hb (Nat.le_refl _)) (SzAt.nil w1 none)
  have HBR : Hid (∀ w1, Calls Tryz.prog 11 #[.string ((s1 ++ ⟨#[10]⟩) ++ s2)] w1 fun e w' => e = .returned (.int .i64 (dm.breaks ((s1 ++ ⟨#[10]⟩) ++ s2).data.toList : Nat)) ∧ w1 = w') := Lib.hid fun w1 => spe.breaks8 _ (by omega) w1
  have HLE : Hid (∀ w1, Calls Tryz.prog 7 #[.string ((s1 ++ ⟨#[10]⟩) ++ s2 ++ s3)] w1 (sd.LlOut ((s1 ++ ⟨#[10]⟩) ++ s2 ++ s3) w1)) := Lib.hid fun w1 => sd.entries7 _ (by omega) w1
  have HEQ := Lib.hid (passed_eq s1 s2 s3 hq m hlm hm hl hp)
  have hnb : dm.breaks ((s1 ++ ⟨#[10]⟩) ++ s2).data.toList ≤ 5000 := by
    have h1 := dm.breaks_le ((s1 ++ ⟨#[10]⟩) ++ s2).data.toList
    have h0 : ∀ z : ByteArray, z.data.toList.length = z.size := fun z => by simp
    have h2 := h0 ((s1 ++ ⟨#[10]⟩) ++ s2)
    omega
  obtain ⟨n, hn⟩ : ∃ n, dm.breaks ((s1 ++ ⟨#[10]⟩) ++ s2).data.toList = n := ⟨_, rfl⟩
  rw [hn] at HBR hnb
  have HN := Lib.hid hn
  have hne := toList_ne s2 (by omega)
  have hneb : s2.toList.isEmpty = false := by simpa using hne
  have hz : ((s2[m]'hlm).toNat : Int) = 10 := by rw [hl]; rfl
  have hzb : (((s2[m]'hlm).toNat : Int) != 10) = false := by rw [hz]; rfl
  have hw : IntKind.i64.wrap ((s2.size : Int) - 1) = (m : Int) := by rw [IntKind.wrap_i64]; omega
  have hm1 : (m : Int) < (s2.size : Int) := by omega
  have hpb : ((sd.pz s2.data.toList : Nat) : Int) = (s2.size : Int) := by omega
  have HL3 : Hid (s3.data.toList.length = s3.size) := Lib.hid (by simp)
  clear hc ho hq hl hp hn e1 e2 e3 hm hz
  go_enter Tryz.func4, Tryz.ntmps4
  go_wp2_with fail
  refine HH.out.mono ?_
  rintro e w0 ⟨rfl, rfl⟩
  dsimp only
  go_wp2_with fail
  refine HP.out.mono ?_
  rintro e w0 ⟨rfl, rfl⟩
  dsimp only
  go_wp2_with fail
  refine HA1.out.mono ?_
  rintro e w1 ⟨v1, l1, rfl, h1⟩
  clear HH HP HA1
  dsimp only
  go_wp2_with fail
  refine (HA2.out w1 h1.out.2.2.2).mono ?_
  rintro e w2 ⟨v2, l2, rfl, h2⟩
  have HB2 : Hid (Below w.heap.size w w2) := Lib.hid (h1.out.2.2.2.trans (h2.out.2.2.2.mono h1.out.2.2.2.size))
  clear HA2
  dsimp only
  go_wp2_with fail
  refine (HA3.out w2 HB2.out).mono ?_
  rintro e w3 ⟨v3, l3, rfl, h3⟩
  have HB3 : Hid (Below w.heap.size w w3) := Lib.hid (HB2.out.trans (h3.out.2.2.2.mono HB2.out.size))
  have HSH := Lib.hid (sam.shifted10 l2 v2 w3 w1.heap.size (h2.out.1.below (But.ofBelow h3.out.2.2.2)) (Nat.le_trans h2.out.2.2.2.size h3.out.2.2.2.size) n hnb (by have := h2.out.2.2.1; omega) (fun p hp x y hf => by
    have hmem : p.E ∈ dm.allM s3.data.toList := by rw [← h2.out.2.1]; exact List.mem_map.2 ⟨p, hp, rfl⟩
    have := dm.all_line p.E hmem x y hf
    have := HL3.out
    omega))
  clear HA3
  dsimp only
  go_wp2_with fail
  refine (HBR.out _).mono ?_
  rintro e w3' ⟨rfl, rfl⟩
  clear HBR
  dsimp only
  go_wp2_with fail
  refine HSH.out.mono ?_
  rintro e w4 ⟨v4, rfl, hv4, h4⟩
  clear HSH
  have hs1 := h1.out.2.2.2.size
  have hs2 := h2.out.2.2.2.size
  have hs3 := h3.out.2.2.2.size
  have hs4 := h4.out.2.size
  have hE1 : Ents w4 w.heap.size v1 l1 := ((h1.out.1.below (But.ofBelow h2.out.2.2.2)).below (But.ofBelow h3.out.2.2.2)).below h4.out.2
  have hE3 : Ents w4 w2.heap.size v3 l3 := h3.out.1.below h4.out.2
  obtain ⟨v5, w5, hrun, hE5, hb5, _⟩ := sam.ents_app hE1 (h4.out.1.mono hs1) hv4 (by omega) (by have := h1.out.2.2.1; have := h2.out.2.2.1; rw [List.length_map]; omega) 23
  have hown1 : ∀ k ∈ (match v1.ownBlock with | some k => [k] | none => []), w.heap.size ≤ k ∧ k < w2.heap.size := fun k hk => by
    cases e : v1.ownBlock with
    | none => rw [e] at hk; simp at hk
    | some q =>
      rw [e] at hk
      simp at hk
      subst hk
      have := own_base h1.out.1.own k e
      omega
  have hb6 := hb5 (match v1.ownBlock with | some k => [k] | none => []) (fun k hk => by rw [hk]; simp)
  have hE3' := ents_far hE3 hb6 (fun k hk => (hown1 k hk).2)
  have HS := Lib.hid (sam.same6 l3 (l1 ++ l2.map (sam.dn n)) (HEQ.out l1 l2 l3 h1.out.2.1 h2.out.2.1 h3.out.2.1 n HN.out.symm) v3 v5 w5 _ _ hE3' hE5)
  have HB5 : Hid (Below w.heap.size w w5) := Lib.hid ((HB3.out.trans (h4.out.2.toBelow.mono (by omega))).trans (hb6.below w.heap.size (by omega) (fun k hk => (hown1 k hk).1)))
  have HRUN := Lib.hid hrun
  have HL : Hid (l3.map (·.E) = dm.allM ((s1 ++ ⟨#[10]⟩) ++ s2 ++ s3).data.toList) := Lib.hid h3.out.2.1
  obtain ⟨a3, c3, rfl⟩ := own_form h3.out.1.own
  clear hE1 hE3 hE5 hb5 hb6 hE3' hown1 hrun hs1 hs2 hs3 hs4 h1 h2 h3 h4 hv4 HEQ
  dsimp only
  go_wp2_with (at_builtin; refine app_guarded (by rfl) _ _ _ _ rfl _ _ _ rfl rfl HRUN.out ?_)
  refine HS.out.mono ?_
  rintro e w6 ⟨rfl, h6⟩
  clear HS HRUN
  dsimp only
  go_wp2_with fail
  refine (HLE.out _).mono ?_
  rintro e w7 ⟨v7, l7, rfl, h7⟩
  obtain ⟨a7, c7, rfl⟩ := own_form h7.out.1.own
  have hlen : l7.length = l3.length := by
    have e7 := congrArg List.length h7.out.2.1
    have e3 := congrArg List.length HL.out
    rw [List.length_map] at e7 e3
    omega
  rw [hlen]
  have HB7 : Hid (Below w.heap.size w w7) := Lib.hid (HB5.out.trans ((h6.out.trans h7.out.2.2.2).toBelow.mono HB5.out.size))
  clear HLE hlen h6 h7
  dsimp only
  go_wp2_with fail
  go_ret
  exact ⟨rfl, HB7.out⟩
theorem law4 (s1 s2 s3 : ByteArray) (b1 : s1.size ≤ 9223372036854775807) (b2 : s2.size ≤ 9223372036854775807) (b3 : s3.size ≤ 9223372036854775807) (w : World) (ev : Addr) (hc : Ctx w ev) (ho : Ovr w) :
    Calls Tryz.prog 4 #[.string s1, .string s2, .string s3] w fun e w' => e = .returned (.bool true) ∧ Below w.heap.size w w' := by
  rcases Nat.lt_or_ge 3000 (s1.size + s2.size + s3.size) with h | h
  · exact law4_long s1 s2 s3 b1 b2 b3 w h
  · cases h1 : s1.data.toList.contains 34 with
    | true => exact law4_other s1 s2 s3 w h true h1 (.inl rfl)
    | false =>
      rcases Nat.eq_zero_or_pos s2.size with h2 | h2
      · exact law4_other s1 s2 s3 w h false h1 (.inr (.inl h2))
      · obtain ⟨m, hm⟩ : ∃ m, s2.size = m + 1 := ⟨s2.size - 1, by omega⟩
        have hlm : m < s2.size := by omega
        by_cases h3 : s2[m]'hlm = 10
        · by_cases h4 : sd.pz s2.data.toList = s2.size
          · exact law4_main s1 s2 s3 w ev hc ho h h1 m hlm hm h3 h4
          · exact law4_other s1 s2 s3 w h false h1 (.inr (.inr (.inr ⟨m, hlm, hm, h3, h4⟩)))
        · exact law4_other s1 s2 s3 w h false h1 (.inr (.inr (.inl ⟨m, hlm, hm, h3⟩)))
end Go.Proofs.YtlcbcgillekphaaGreatDoor.dec
