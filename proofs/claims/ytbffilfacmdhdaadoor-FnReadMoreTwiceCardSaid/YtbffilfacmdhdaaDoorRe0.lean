/-
  Proved: what a buffered reader in memory is; the contracts of its readErr, Buffered and Read.
  Conditions: a reader with bytes left.
-/
import Derived.Test.YtbffilfacmdhdaaDoorRd2
import Derived.Deep.DeepCutAuto
import Derived.Deep.RegionLaw
namespace Go.Proofs.YtbffilfacmdhdaaDoor.dec
open Go.RowKit Mem rw
set_option linter.unusedVariables false

/-- A buffered reader lies at X, its buffer at B: l is what it has read into it, r of them are gone. -/
structure BX (G : Cfg) (X B : Nat) (w : World) (l : List UInt8) (r : Nat) (left : List UInt8) (at_ : Nat) (lb ls : Int) : Prop where
  row : Rw w X [.slice (some ⟨B, 0, none⟩) 4096 4096, .iface 29 (.pointer (some ⟨G.R, 0, none⟩)), .int .i64 r, .int .i64 l.length, .nilIface, .int .i64 lb, .int .i64 ls] 107
  buf : BufAt w B l 4096
  rl : r ≤ l.length
  rd : Rd G w left at_
  ll : left.length ≤ 4000
  XB : X ≠ B
  RB : G.R ≠ B
  RX : G.R ≠ X
  Xlo : G.w0.heap.size ≤ X
  Blo : G.w0.heap.size ≤ B
  bel : Below G.w0.heap.size G.w0 w
def BX.rest (l : List UInt8) (r : Nat) (left : List UInt8) : List UInt8 := l.drop r ++ left
theorem BX.quiet {G : Cfg} {X B : Nat} {w w' : World} {l : List UInt8} {r : Nat} {left : List UInt8} {at_ : Nat} {lb ls : Int} (h : BX G X B w l r left at_ lb ls) (hb : But [] w w') : BX G X B w' l r left at_ lb ls :=
  ⟨Rw.but h.row hb (by simp), h.buf.but hb (by simp), h.rl, ⟨Rw.but h.rd.row hb (by simp), h.rd.few, h.rd.le⟩, h.ll, h.XB, h.RB, h.RX, h.Xlo, h.Blo, h.bel.trans (hb.toBelow.mono h.bel.size)⟩
/-- Of a world that differs elsewhere alone. -/
theorem BX.else_ {G : Cfg} {X B P : Nat} {w w' : World} {l : List UInt8} {r : Nat} {left : List UInt8} {at_ : Nat} {lb ls : Int} (h : BX G X B w l r left at_ lb ls) (hb : But [P] w w') (h1 : X ≠ P) (h2 : B ≠ P) (h3 : G.R ≠ P) (h4 : G.w0.heap.size ≤ P) : BX G X B w' l r left at_ lb ls :=
  ⟨Rw.but h.row hb (by simpa using h1), h.buf.but hb (by simpa using h2), h.rl, ⟨Rw.but h.rd.row hb (by simpa using h3), h.rd.few, h.rd.le⟩, h.ll, h.XB, h.RB, h.RX, h.Xlo, h.Blo, h.bel.trans (hb.below _ h.bel.size (by simpa using h4))⟩
/-- A store into one of its cells. -/
theorem BX.put {G : Cfg} {X B : Nat} {w : World} {l : List UInt8} {r : Nat} {left : List UInt8} {at_ : Nat} {lb ls : Int} (h : BX G X B w l r left at_ lb ls) (j : Nat) (v : Value) (l' : List UInt8) (r' : Nat) (lb' ls' : Int)
    (hc : [.slice (some ⟨B, 0, none⟩) 4096 4096, .iface 29 (.pointer (some ⟨G.R, 0, none⟩)), .int .i64 r', .int .i64 l'.length, .nilIface, .int .i64 lb', .int .i64 ls'] = ([.slice (some ⟨B, 0, none⟩) 4096 4096, .iface 29 (.pointer (some ⟨G.R, 0, none⟩)), .int .i64 r, .int .i64 l.length, .nilIface, .int .i64 lb, .int .i64 ls] : List Value).set j v)
    (hb : BufAt w B l' 4096) (hr : r' ≤ l'.length) : BX G X B (w.setCell ⟨X, j, none⟩ v) l' r' left at_ lb' ls' := by
  have hst : But [X] w (w.setCell ⟨X, j, none⟩ v) := (But.refl _ w).setCell (Or.inl (by simp)) _
  refine ⟨?_, hb.but hst (by simpa using h.XB.symm), hr, ⟨Rw.but h.rd.row hst (by simpa using h.RX), h.rd.few, h.rd.le⟩, h.ll, h.XB, h.RB, h.RX, h.Xlo, h.Blo, h.bel.trans (hst.below _ h.bel.size (by simpa using h.Xlo))⟩
  rw [hc]
  exact Rw.set h.row j v
theorem buf_none {w : World} {A cap : Nat} {l : List UInt8} (h : BufAt w A l cap) : BufAt w A [] cap := ⟨fun j x hx => by simp at hx, h.room, h.free, Nat.zero_le _, h.lt, h.lim⟩
theorem BX.cells {G : Cfg} {X B : Nat} {w : World} {l : List UInt8} {r : Nat} {left : List UInt8} {at_ : Nat} {lb ls : Int} (h : BX G X B w l r left at_ lb ls) :
    w.cell? ⟨X, 0, none⟩ = some (.slice (some ⟨B, 0, none⟩) 4096 4096) ∧ w.cell? ⟨X, 1, none⟩ = some (.iface 29 (.pointer (some ⟨G.R, 0, none⟩))) ∧ w.cell? ⟨X, 2, none⟩ = some (.int .i64 r) ∧ w.cell? ⟨X, 3, none⟩ = some (.int .i64 l.length) ∧ w.cell? ⟨X, 4, none⟩ = some .nilIface ∧ w.cell? ⟨X, 5, none⟩ = some (.int .i64 lb) ∧ w.cell? ⟨X, 6, none⟩ = some (.int .i64 ls) :=
  ⟨Rw.cell h.row 0, Rw.cell h.row 1, Rw.cell h.row 2, Rw.cell h.row 3, Rw.cell h.row 4, Rw.cell h.row 5, Rw.cell h.row 6⟩
theorem err60 (G : Cfg) (X B : Nat) (w : World) (l : List UInt8) (r : Nat) (left : List UInt8) (at_ : Nat) (lb ls : Int) (h : BX G X B w l r left at_ lb ls) :
    Calls Tryd.prog 60 #[.pointer (some ⟨X, 0, none⟩)] w fun e w' => e = .returned .nilIface ∧ w.setCell ⟨X, 4, none⟩ .nilIface = w' := by
  obtain ⟨c0, c1, c2, c3, c4, c5, c6⟩ := h.cells
  have z4 := Rw.fz h.row 4
  clear h
  go_enter Tryd.func60, Tryd.ntmps60
  go_wp2
  go_ret
  exact ⟨rfl, rfl⟩
theorem buffered54 (G : Cfg) (X B : Nat) (w : World) (l : List UInt8) (r : Nat) (left : List UInt8) (at_ : Nat) (lb ls : Int) (h : BX G X B w l r left at_ lb ls) :
    Calls Tryd.prog 54 #[.pointer (some ⟨X, 0, none⟩)] w fun e w' => e = .returned (.int .i64 ((l.length - r : Nat) : Int)) ∧ ∃ n, w.drewN n = w' := by
  obtain ⟨c0, c1, c2, c3, c4, c5, c6⟩ := h.cells
  have hrl := h.rl
  have hle := h.buf.le
  obtain ⟨d, hd⟩ : ∃ d, l.length - r = d := ⟨_, rfl⟩
  have hw : IntKind.i64.wrap ((l.length : Int) - (r : Int)) = (d : Int) := by rw [IntKind.wrap_i64]; omega
  rw [hd]
  clear h hd
  go_enter Tryd.func54, Tryd.ntmps54
  go_wp2
  go_quiet (fail)
  go_wp2
  go_ret
  exact ⟨rfl, _, rfl⟩
/-- copy out of a row of bytes into another row's spare room. -/
theorem copy_row (w : World) (P o k c B p m c2 q : Nat) (y : List UInt8) (hq : min k m = q) (hy : ∀ j x, y[j]? = some x → w.cell? ⟨B, p + j, none⟩ = some (.int .u8 (x.toNat : Int))) (hm : y.length = m)
    (hc : ∀ j, j < k → (w.cell? ⟨P, o + j, none⟩).isSome = true) (hf : ∀ j, j < k → w.frozen? ⟨P, o + j, none⟩ = false) (ty : TypeId) :
    (Builtin.copy_ #[35, 35] ty #[.slice (some ⟨P, o, none⟩) k c, .slice (some ⟨B, p, none⟩) m c2]).run Tryd.prog w = .ok (goInt q) (w.setCells P o (Lib.byteCells (y.take q))) := by
  have hmin : Nat.min m k = q := by show min m k = q; omega
  have hl : (Lib.byteCells (y.take q)).length = q := by rw [Lib.byteCells_length, List.length_take]; omega
  have hz : ∀ w : World, (Go.sizeOf 5).run Tryd.prog w = .ok 1 w := fun _ => by kernel_rfl
  have hfc := run_firstCells_some (P := Tryd.prog) w 1 q ⟨B, p, none⟩ m c2 (Lib.byteCells (y.take q)) (by rw [hl, Nat.mul_one]) (fun j v hv => by
    simp only [Lib.byteCells, List.getElem?_map, Option.map_eq_some_iff] at hv
    obtain ⟨x, hx, rfl⟩ := hv
    rw [Addr.add_lit]
    refine hy j x ?_
    rw [List.getElem?_take] at hx
    split at hx
    · exact hx
    · cases hx)
  have hst := run_storeCells_cells (P := Tryd.prog) P o (Lib.byteCells (y.take q)) 0 w (by rw [hl]; intro j hj; simpa using hc j (by omega)) (by rw [hl]; intro j hj; simpa using hf j (by omega)) (by
    intro v hv
    obtain ⟨x, _, rfl⟩ := List.mem_map.1 hv
    rfl)
  simp [Builtin.copy_, run_underlying Tryd.underlying35, Builtin.lenOf, hz, hmin, hfc]
  rw [hst]
  rfl
end Go.Proofs.YtbffilfacmdhdaaDoor.dec
