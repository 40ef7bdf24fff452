/-
  Proved: the law FnValueGet walked: it returns true for every value and kind.
  Conditions: a number's bits fit; the tables of utf8 read as their initialisers lay them.
-/
import Derived.Test.YtkibdomfiodilaaDoorValJ
namespace Go.Proofs.YtkibdomfiodilaaDoor.val
open Go.RowKit Mem rw
set_option linter.unusedVariables false
attribute [local go_sem] store_float

def vcells (k : Int) (s : ByteArray) (n u : Int) (f : Nat) (b : Bool) : List Value := [.int .i64 k, .string s, .int .i64 n, .int .u64 u, .float .f64 f, .bool b]
def LawOut (w : World) (e : Ending) (w' : World) : Prop := e = .returned (.bool true) ∧ Hid (Below w.heap.size w w')
def FitOut (r : Bool) (w : World) (e : Ending) (w' : World) : Prop := e = .returned (.bool r) ∧ Hid (But [] w w')
theorem fit7 (k : Int) (s : ByteArray) (n u : Int) (f : Nat) (b : Bool) (w : World) : Calls Tryd.prog 7 #[vA k s n u f b] w (FitOut (decide (s.size ≤ 2147483647)) w) :=
  (fits7 k s n u f b w).mono fun e w' h => ⟨h.1, Lib.hid (But.ofBelow h.2)⟩

theorem law_large (k : Int) (s : ByteArray) (n u : Int) (f : Nat) (b : Bool) (kind : Int) (w : World) (h : ¬ s.size ≤ 2147483647) :
    Calls Tryd.prog 3 #[vA k s n u f b, .int .i64 kind] w (LawOut w) := by
  have hd : decide (s.size ≤ 2147483647) = false := by simp; omega
  have HF := Lib.hid (fun w0 => fit7 k s n u f b w0)
  rw [hd] at HF
  have hB : Hid (∀ o, But [] w (w.alloc o)) := Lib.hid fun o => (But.refl [] w).alloc o
  clear hd h
  go_enter Tryd.func3, Tryd.ntmps3
  go_wp2_with fail
  refine (HF.out _).mono ?_
  rintro e w1 ⟨rfl, b1⟩
  go_wp2
  go_ret
  exact ⟨rfl, Lib.hid ((hB.out _).trans b1.out).toBelow⟩

theorem law_out (k : Int) (s : ByteArray) (n u : Int) (f : Nat) (b : Bool) (kind : Int) (w : World) (h : s.size ≤ 2147483647) (hk : kindsB k s = false ∨ kind < 1 ∨ 5 < kind) :
    Calls Tryd.prog 3 #[vA k s n u f b, .int .i64 kind] w (LawOut w) := by
  have hd : decide (s.size ≤ 2147483647) = true := by simp; omega
  have HF := Lib.hid (fun w0 => fit7 k s n u f b w0)
  rw [hd] at HF
  obtain ⟨r, hr⟩ : ∃ r, kindsB k s = r := ⟨_, rfl⟩
  have HK := Lib.hid (fun A w0 h0 => kinds8 A k s n u f b w0 h0)
  rw [hr] at hk HK
  have hB : Hid (∀ o, But [] w (w.alloc o)) := Lib.hid fun o => (But.refl [] w).alloc o
  have hN : Hid (∀ W : World, But [] W (W.alloc (.cells (vcells k s n u f b).toArray 25)) ∧ Rw (W.alloc (.cells (vcells k s n u f b).toArray 25)) W.heap.size (vcells k s n u f b) 25) := Lib.hid fun W => ⟨(But.refl [] W).alloc _, Rw.new _ _ _⟩
  clear hd h hr
  have walk : ∀ (hc : r = false ∨ (r = true ∧ kind < 1) ∨ (r = true ∧ ¬ kind < 1 ∧ 5 < kind)), Calls Tryd.prog 3 #[vA k s n u f b, .int .i64 kind] w (LawOut w) := by
    rintro (rfl | ⟨rfl, h1⟩ | ⟨rfl, h1, h2⟩)
    all_goals
      clear hk
      go_enter Tryd.func3, Tryd.ntmps3
      go_wp2_with fail
      refine (HF.out _).mono ?_
      rintro e w1 ⟨rfl, b1⟩
      have r1 := Rw.but (Rw.new w (vcells k s n u f b) 25) b1.out (by simp)
      have c0 := Rw.cell r1 0
      have c1 := Rw.cell r1 1
      have c2 := Rw.cell r1 2
      have c3 := Rw.cell r1 3
      have c4 := Rw.cell r1 4
      have c5 := Rw.cell r1 5
      simp only [vcells, List.getElem?_cons_zero, List.getElem?_cons_succ] at c0 c1 c2 c3 c4 c5
      have hl := Rw.lt r1
      clear r1
      go_wp2_with fail
      refine (HK.out _ _ (hN.out w1).2).mono ?_
      rintro e w2 ⟨rfl, b2⟩
      go_wp2
      go_ret
      exact ⟨rfl, Lib.hid (((hB.out _).trans b1.out).trans ((hN.out w1).1.trans b2.out)).toBelow⟩
  refine walk ?_
  cases r
  · exact .inl rfl
  · rcases hk with hk | hk | hk
    · cases hk
    · exact .inr (.inl ⟨rfl, hk⟩)
    · exact .inr (.inr ⟨rfl, by omega, hk⟩)
/-! ### the rest -/
theorem six12 {w : World} {p q : Nat} {a0 a1 a2 a3 a4 a5 b0 b1 b2 b3 b4 b5 : Value} {T : TypeId} (hp : Rw w p [a0, a1, a2, a3, a4, a5] T) (hq : Rw w q [b0, b1, b2, b3, b4, b5] T) :
    (w.cell? ⟨p, 0, none⟩ = some a0 ∧ w.cell? ⟨p, 1, none⟩ = some a1 ∧ w.cell? ⟨p, 2, none⟩ = some a2 ∧ w.cell? ⟨p, 3, none⟩ = some a3 ∧ w.cell? ⟨p, 4, none⟩ = some a4 ∧ w.cell? ⟨p, 5, none⟩ = some a5) ∧
    (w.cell? ⟨q, 0, none⟩ = some b0 ∧ w.cell? ⟨q, 1, none⟩ = some b1 ∧ w.cell? ⟨q, 2, none⟩ = some b2 ∧ w.cell? ⟨q, 3, none⟩ = some b3 ∧ w.cell? ⟨q, 4, none⟩ = some b4 ∧ w.cell? ⟨q, 5, none⟩ = some b5) :=
  ⟨⟨Rw.cell hp 0, Rw.cell hp 1, Rw.cell hp 2, Rw.cell hp 3, Rw.cell hp 4, Rw.cell hp 5⟩, ⟨Rw.cell hq 0, Rw.cell hq 1, Rw.cell hq 2, Rw.cell hq 3, Rw.cell hq 4, Rw.cell hq 5⟩⟩

set_option maxRecDepth 100000 in
set_option maxHeartbeats 1000000 in
theorem law_cant (k : Int) (s : ByteArray) (n u : Int) (f : Nat) (b : Bool) (kind : Int) (w : World) (h : s.size ≤ 2147483647) (hk : kindsB k s = true) (h1 : 1 ≤ kind) (h5 : kind ≤ 5) (hf : f < 2 ^ 64) (hT : Tabs w) (hc : canB k s f = false) :
    Calls Tryd.prog 3 #[vA k s n u f b, .int .i64 kind] w (LawOut w) := by
  have hd : decide (s.size ≤ 2147483647) = true := by simp; omega
  have HF := Lib.hid (fun w0 => fit7 k s n u f b w0)
  rw [hd] at HF
  have HK := Lib.hid (fun A w0 h0 => kinds8 A k s n u f b w0 h0)
  rw [hk] at HK
  have hB : Hid (∀ o, But [] w (w.alloc o)) := Lib.hid fun o => (But.refl [] w).alloc o
  have hN : Hid (∀ W : World, But [] W (W.alloc (.cells (vcells k s n u f b).toArray 25)) ∧ Rw (W.alloc (.cells (vcells k s n u f b).toArray 25)) W.heap.size (vcells k s n u f b) 25) := Lib.hid fun W => ⟨(But.refl [] W).alloc _, Rw.new _ _ _⟩
  have HTB : Hid (∀ w', But [] w w' → Tabs w') := Lib.hid fun w' hb => tabs_but hT hb (by simp) (by simp)
  have hk1 : ¬ kind < 1 := by omega
  have hk5 : ¬ 5 < kind := by omega
  have HCB := Lib.hid (fun w0 => can10 k s n u f b h w0)
  have hno : ¬ (canB k s f = true ∧ k = kind) := by rw [hc]; simp
  have HG := Lib.hid (fun w' hb => get_bad k s n u f b kind ⟨h1, h5⟩ h hf w' (HTB.out w' hb) hno)
  clear hno
  rw [hc] at HCB
  clear hc
  clear hd hk hT h
  go_enter Tryd.func3, Tryd.ntmps3
  go_wp2_with fail
  refine (HF.out _).mono ?_
  rintro e w1 ⟨rfl, b1⟩
  have r1 := Rw.but (Rw.new w (vcells k s n u f b) 25) b1.out (by simp)
  have c0 := Rw.cell r1 0
  have c1 := Rw.cell r1 1
  have c2 := Rw.cell r1 2
  have c3 := Rw.cell r1 3
  have c4 := Rw.cell r1 4
  have c5 := Rw.cell r1 5
  simp only [vcells, List.getElem?_cons_zero, List.getElem?_cons_succ] at c0 c1 c2 c3 c4 c5
  have hl := Rw.lt r1
  have R1 := Lib.hid r1
  clear r1
  go_wp2_with fail
  refine (HK.out _ _ (hN.out w1).2).mono ?_
  rintro e w2 ⟨rfl, b2⟩
  have B2 := Lib.hid (((hB.out _).trans b1.out).trans ((hN.out w1).1.trans b2.out))
  have r2 := Rw.but R1.out ((hN.out w1).1.trans b2.out) (by simp)
  clear c0 c1 c2 c3 c4 c5
  have c0 := Rw.cell r2 0
  have c1 := Rw.cell r2 1
  have c2 := Rw.cell r2 2
  have c3 := Rw.cell r2 3
  have c4 := Rw.cell r2 4
  have c5 := Rw.cell r2 5
  simp only [vcells, List.getElem?_cons_zero, List.getElem?_cons_succ] at c0 c1 c2 c3 c4 c5
  have hl2 := Rw.lt r2
  have R2 := Lib.hid r2
  clear r2 b1 b2
  go_wp2_with fail
  refine (HG.out _ B2.out).mono ?_
  rintro e w3 ⟨rfl, b3⟩
  have r3 := fun o => Rw.but R2.out (b3.out.alloc o) (by simp)
  clear c0 c1 c2 c3 c4 c5
  have c0 := fun o => Rw.cell (r3 o) 0
  have c1 := fun o => Rw.cell (r3 o) 1
  have c2 := fun o => Rw.cell (r3 o) 2
  have c3 := fun o => Rw.cell (r3 o) 3
  have c4 := fun o => Rw.cell (r3 o) 4
  have c5 := fun o => Rw.cell (r3 o) 5
  simp only [vcells, List.getElem?_cons_zero, List.getElem?_cons_succ] at c0 c1 c2 c3 c4 c5
  have hl3 : w.heap.size < w3.heap.size := by have := b3.out.size; omega
  have B3 : Hid (∀ o, But [] w (w3.alloc o)) := Lib.hid fun o => (B2.out.trans b3.out).alloc o
  have R3 := Lib.hid r3
  clear r3 b3
  go_wp2_with fail
  refine (HCB.out _).mono ?_
  rintro e w4 ⟨rfl, b4⟩
  have r4 := Rw.but (R3.out _) b4.out (by simp)
  clear c0 c1 c2 c3 c4 c5
  have c0 := Rw.cell r4 0
  simp only [vcells, List.getElem?_cons_zero] at c0
  clear r4
  go_wp2
  go_ret
  exact ⟨rfl, Lib.hid ((B3.out _).trans b4.out).toBelow⟩

set_option maxRecDepth 100000 in
set_option maxHeartbeats 1000000 in
theorem law_other (k : Int) (s : ByteArray) (n u : Int) (f : Nat) (b : Bool) (kind : Int) (w : World) (h : s.size ≤ 2147483647) (hk : kindsB k s = true) (h1 : 1 ≤ kind) (h5 : kind ≤ 5) (hf : f < 2 ^ 64) (hT : Tabs w) (hc : canB k s f = true) (hne : k ≠ kind) :
    Calls Tryd.prog 3 #[vA k s n u f b, .int .i64 kind] w (LawOut w) := by
  have hd : decide (s.size ≤ 2147483647) = true := by simp; omega
  have HF := Lib.hid (fun w0 => fit7 k s n u f b w0)
  rw [hd] at HF
  have HK := Lib.hid (fun A w0 h0 => kinds8 A k s n u f b w0 h0)
  rw [hk] at HK
  have hB : Hid (∀ o, But [] w (w.alloc o)) := Lib.hid fun o => (But.refl [] w).alloc o
  have hN : Hid (∀ W : World, But [] W (W.alloc (.cells (vcells k s n u f b).toArray 25)) ∧ Rw (W.alloc (.cells (vcells k s n u f b).toArray 25)) W.heap.size (vcells k s n u f b) 25) := Lib.hid fun W => ⟨(But.refl [] W).alloc _, Rw.new _ _ _⟩
  have HTB : Hid (∀ w', But [] w w' → Tabs w') := Lib.hid fun w' hb => tabs_but hT hb (by simp) (by simp)
  have hk1 : ¬ kind < 1 := by omega
  have hk5 : ¬ 5 < kind := by omega
  have HCB := Lib.hid (fun w0 => can10 k s n u f b h w0)
  have hno : ¬ (canB k s f = true ∧ k = kind) := fun e => hne e.2
  have HG := Lib.hid (fun w' hb => get_bad k s n u f b kind ⟨h1, h5⟩ h hf w' (HTB.out w' hb) hno)
  clear hno
  rw [hc] at HCB
  have hkk : (k == kind) = false := by simpa using hne
  have hkb : (k != kind) = true := by simpa using hne
  clear hc
  clear hd hk hT h
  go_enter Tryd.func3, Tryd.ntmps3
  go_wp2_with fail
  refine (HF.out _).mono ?_
  rintro e w1 ⟨rfl, b1⟩
  have r1 := Rw.but (Rw.new w (vcells k s n u f b) 25) b1.out (by simp)
  have c0 := Rw.cell r1 0
  have c1 := Rw.cell r1 1
  have c2 := Rw.cell r1 2
  have c3 := Rw.cell r1 3
  have c4 := Rw.cell r1 4
  have c5 := Rw.cell r1 5
  simp only [vcells, List.getElem?_cons_zero, List.getElem?_cons_succ] at c0 c1 c2 c3 c4 c5
  have hl := Rw.lt r1
  have R1 := Lib.hid r1
  clear r1
  go_wp2_with fail
  refine (HK.out _ _ (hN.out w1).2).mono ?_
  rintro e w2 ⟨rfl, b2⟩
  have B2 := Lib.hid (((hB.out _).trans b1.out).trans ((hN.out w1).1.trans b2.out))
  have r2 := Rw.but R1.out ((hN.out w1).1.trans b2.out) (by simp)
  clear c0 c1 c2 c3 c4 c5
  have c0 := Rw.cell r2 0
  have c1 := Rw.cell r2 1
  have c2 := Rw.cell r2 2
  have c3 := Rw.cell r2 3
  have c4 := Rw.cell r2 4
  have c5 := Rw.cell r2 5
  simp only [vcells, List.getElem?_cons_zero, List.getElem?_cons_succ] at c0 c1 c2 c3 c4 c5
  have hl2 := Rw.lt r2
  have R2 := Lib.hid r2
  clear r2 b1 b2
  go_wp2_with fail
  refine (HG.out _ B2.out).mono ?_
  rintro e w3 ⟨rfl, b3⟩
  have r3 := fun o => Rw.but R2.out (b3.out.alloc o) (by simp)
  clear c0 c1 c2 c3 c4 c5
  have c0 := fun o => Rw.cell (r3 o) 0
  have c1 := fun o => Rw.cell (r3 o) 1
  have c2 := fun o => Rw.cell (r3 o) 2
  have c3 := fun o => Rw.cell (r3 o) 3
  have c4 := fun o => Rw.cell (r3 o) 4
  have c5 := fun o => Rw.cell (r3 o) 5
  simp only [vcells, List.getElem?_cons_zero, List.getElem?_cons_succ] at c0 c1 c2 c3 c4 c5
  have hl3 : w.heap.size < w3.heap.size := by have := b3.out.size; omega
  have B3 : Hid (∀ o, But [] w (w3.alloc o)) := Lib.hid fun o => (B2.out.trans b3.out).alloc o
  have R3 := Lib.hid r3
  clear r3 b3
  go_wp2_with fail
  refine (HCB.out _).mono ?_
  rintro e w4 ⟨rfl, b4⟩
  have r4 := Rw.but (R3.out _) b4.out (by simp)
  clear c0 c1 c2 c3 c4 c5
  have c0 := Rw.cell r4 0
  simp only [vcells, List.getElem?_cons_zero] at c0
  clear r4
  go_wp2
  go_ret
  exact ⟨rfl, Lib.hid ((B3.out _).trans b4.out).toBelow⟩

set_option maxRecDepth 100000 in
set_option maxHeartbeats 1000000 in
theorem law_good (k : Int) (s : ByteArray) (n u : Int) (f : Nat) (b : Bool) (kind : Int) (w : World) (h : s.size ≤ 2147483647) (hk : kindsB k s = true) (h1 : 1 ≤ kind) (h5 : kind ≤ 5) (hf : f < 2 ^ 64) (hT : Tabs w) (hn : -9223372036854775808 ≤ n ∧ n ≤ 9223372036854775807) (hc : canB k s f = true) (hkk : k = kind) :
    Calls Tryd.prog 3 #[vA k s n u f b, .int .i64 kind] w (LawOut w) := by
  have hd : decide (s.size ≤ 2147483647) = true := by simp; omega
  have HF := Lib.hid (fun w0 => fit7 k s n u f b w0)
  rw [hd] at HF
  have HK := Lib.hid (fun A w0 h0 => kinds8 A k s n u f b w0 h0)
  rw [hk] at HK
  have hB : Hid (∀ o, But [] w (w.alloc o)) := Lib.hid fun o => (But.refl [] w).alloc o
  have hN : Hid (∀ W : World, But [] W (W.alloc (.cells (vcells k s n u f b).toArray 25)) ∧ Rw (W.alloc (.cells (vcells k s n u f b).toArray 25)) W.heap.size (vcells k s n u f b) 25) := Lib.hid fun W => ⟨(But.refl [] W).alloc _, Rw.new _ _ _⟩
  have HTB : Hid (∀ w', But [] w w' → Tabs w') := Lib.hid fun w' hb => tabs_but hT hb (by simp) (by simp)
  have hk1 : ¬ kind < 1 := by omega
  have hk5 : ¬ 5 < kind := by omega
  have HCB := Lib.hid (fun w0 => can10 k s n u f b h w0)
  subst hkk
  have HG := Lib.hid (fun w' hb => get_good k s n u f b h hf hn w' (HTB.out w' hb) hc)
  have HP := Lib.hid (fun w0 => plain12 k s n u f b w0 ⟨h1, h5⟩)
  rw [hc] at HCB
  clear hc hn
  clear hd hk hT h
  go_enter Tryd.func3, Tryd.ntmps3
  go_wp2_with fail
  refine (HF.out _).mono ?_
  rintro e w1 ⟨rfl, b1⟩
  have r1 := Rw.but (Rw.new w (vcells k s n u f b) 25) b1.out (by simp)
  have c0 := Rw.cell r1 0
  have c1 := Rw.cell r1 1
  have c2 := Rw.cell r1 2
  have c3 := Rw.cell r1 3
  have c4 := Rw.cell r1 4
  have c5 := Rw.cell r1 5
  simp only [vcells, List.getElem?_cons_zero, List.getElem?_cons_succ] at c0 c1 c2 c3 c4 c5
  have hl := Rw.lt r1
  have R1 := Lib.hid r1
  clear r1
  go_wp2_with fail
  refine (HK.out _ _ (hN.out w1).2).mono ?_
  rintro e w2 ⟨rfl, b2⟩
  have B2 := Lib.hid (((hB.out _).trans b1.out).trans ((hN.out w1).1.trans b2.out))
  have r2 := Rw.but R1.out ((hN.out w1).1.trans b2.out) (by simp)
  clear c0 c1 c2 c3 c4 c5
  have c0 := Rw.cell r2 0
  have c1 := Rw.cell r2 1
  have c2 := Rw.cell r2 2
  have c3 := Rw.cell r2 3
  have c4 := Rw.cell r2 4
  have c5 := Rw.cell r2 5
  simp only [vcells, List.getElem?_cons_zero, List.getElem?_cons_succ] at c0 c1 c2 c3 c4 c5
  have hl2 := Rw.lt r2
  have R2 := Lib.hid r2
  clear r2 b1 b2
  go_wp2_with fail
  obtain ⟨a1, a2, a3, a4, a5, hpl, hfin, hget⟩ := HG.out _ B2.out
  rw [hpl] at HP
  have HGET := Lib.hid hget
  have HSM := Lib.hid (fun w0 => same11 k a1 a2 a3 a4 a5 hfin w0)
  clear hpl hfin hget
  refine HGET.out.mono ?_
  rintro e w3 ⟨rfl, b3⟩
  have r3 := fun o => Rw.but R2.out (b3.out.alloc o) (by simp)
  clear c0 c1 c2 c3 c4 c5
  have c0 := fun o => Rw.cell (r3 o) 0
  have c1 := fun o => Rw.cell (r3 o) 1
  have c2 := fun o => Rw.cell (r3 o) 2
  have c3 := fun o => Rw.cell (r3 o) 3
  have c4 := fun o => Rw.cell (r3 o) 4
  have c5 := fun o => Rw.cell (r3 o) 5
  simp only [vcells, List.getElem?_cons_zero, List.getElem?_cons_succ] at c0 c1 c2 c3 c4 c5
  have hl3 : w.heap.size < w3.heap.size := by have := b3.out.size; omega
  have B3 : Hid (∀ o, But [] w (w3.alloc o)) := Lib.hid fun o => (B2.out.trans b3.out).alloc o
  have R3 := Lib.hid r3
  clear r3 b3
  go_wp2_with fail
  refine (HCB.out _).mono ?_
  rintro e w4 ⟨rfl, b4⟩
  have r4 := Rw.but (R3.out _) b4.out (by simp)
  clear c0 c1 c2 c3 c4 c5
  have c0 := Rw.cell r4 0
  have c1 := Rw.cell r4 1
  have c2 := Rw.cell r4 2
  have c3 := Rw.cell r4 3
  have c4 := Rw.cell r4 4
  have c5 := Rw.cell r4 5
  simp only [vcells, List.getElem?_cons_zero, List.getElem?_cons_succ] at c0 c1 c2 c3 c4 c5
  have q4 := Rw.but (Rw.new w3 [.int .i64 k, .string a1, .int .i64 a2, .int .u64 a3, .float .f64 a4, .bool a5] 25) b4.out (by simp)
  have d0 := Rw.cell q4 0
  have d1 := Rw.cell q4 1
  have d2 := Rw.cell q4 2
  have d3 := Rw.cell q4 3
  have d4 := Rw.cell q4 4
  have d5 := Rw.cell q4 5
  simp only [List.getElem?_cons_zero, List.getElem?_cons_succ] at d0 d1 d2 d3 d4 d5
  have B4 := Lib.hid ((B3.out _).trans b4.out)
  have R4 := Lib.hid r4
  have Q4 := Lib.hid q4
  clear r4 q4 b4
  go_wp2_with fail
  go_region_held3 (fun wx => (wx.cell? ⟨w.heap.size, 0, none⟩ = some (.int .i64 k) ∧ wx.cell? ⟨w.heap.size, 1, none⟩ = some (.string s) ∧ wx.cell? ⟨w.heap.size, 2, none⟩ = some (.int .i64 n) ∧ wx.cell? ⟨w.heap.size, 3, none⟩ = some (.int .u64 u) ∧ wx.cell? ⟨w.heap.size, 4, none⟩ = some (.float .f64 f) ∧ wx.cell? ⟨w.heap.size, 5, none⟩ = some (.bool b)) ∧ (wx.cell? ⟨w3.heap.size, 0, none⟩ = some (.int .i64 k) ∧ wx.cell? ⟨w3.heap.size, 1, none⟩ = some (.string a1) ∧ wx.cell? ⟨w3.heap.size, 2, none⟩ = some (.int .i64 a2) ∧ wx.cell? ⟨w3.heap.size, 3, none⟩ = some (.int .u64 a3) ∧ wx.cell? ⟨w3.heap.size, 4, none⟩ = some (.float .f64 a4) ∧ wx.cell? ⟨w3.heap.size, 5, none⟩ = some (.bool a5))) (first | exact six12 R4.out Q4.out | exact six12 (Rw.but R4.out b5 (by simp)) (Rw.but Q4.out b5 (by simp)) | exact six12 (Rw.but R4.out b6 (by simp)) (Rw.but Q4.out b6 (by simp))) (first | (go_at_call 12; refine (HP.out _).mono ?_; rintro e w5 ⟨rfl, b5'⟩; have b5 : But [] w4 w5 := ((But.refl [] w4).drew).trans (But.ofBelow b5'); clear b5') | (go_at_call 11; refine (HSM.out _).mono ?_; rintro e w6 ⟨rfl, b6'⟩; have b6 : But [] w4 w6 := b5.trans b6'.out; clear b6'))
  all_goals
    go_wp2
    go_ret
    exact ⟨rfl, Lib.hid (B4.out.trans b6).toBelow⟩

theorem lawWalk (k : Int) (s : ByteArray) (n u : Int) (f : Nat) (b : Bool) (kind : Int) (hn : -9223372036854775808 ≤ n ∧ n ≤ 9223372036854775807) (hf : f < 2 ^ 64) (w : World) (hT : Tabs w) :
    Calls Tryd.prog 3 #[vA k s n u f b, .int .i64 kind] w (LawOut w) := by
  by_cases h : s.size ≤ 2147483647
  · by_cases hk : kindsB k s = false ∨ kind < 1 ∨ 5 < kind
    · exact law_out k s n u f b kind w h hk
    · have hk1 : kindsB k s = true := by
        cases e : kindsB k s
        · exact absurd (.inl e) hk
        · rfl
      have h1 : 1 ≤ kind := by
        rcases Int.lt_or_le kind 1 with e | e
        · exact absurd (.inr (.inl e)) hk
        · exact e
      have h5 : kind ≤ 5 := by
        rcases Int.lt_or_le 5 kind with e | e
        · exact absurd (.inr (.inr e)) hk
        · exact e
      cases hc : canB k s f
      · exact law_cant k s n u f b kind w h hk1 h1 h5 hf hT hc
      · by_cases hkk : k = kind
        · exact law_good k s n u f b kind w h hk1 h1 h5 hf hT hn hc hkk
        · exact law_other k s n u f b kind w h hk1 h1 h5 hf hT hc hkk
  · exact law_large k s n u f b kind w h
end Go.Proofs.YtkibdomfiodilaaDoor.val
