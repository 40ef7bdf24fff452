/-
  Proved: a struct that comes by value, opened to its fields' cells, whatever the number of its one-cell fields; from the tables as a row lists them to what the contracts of utf8 ask.
  Conditions: each law's own.
-/
import Derived.Test.YtkibdomfiodilaaDoorRows
import Derived.Lib.SmallJoins
import Derived.Lib.LaidU8T
namespace Go.Proofs.YtkibdomfiodilaaDoor.fld
open Go.RowKit Go.Joins Go.ChangeShapes Go.WideShapes Go.Deep
set_option linter.unusedVariables false

variable {H : Type} {enc : TypeId × Value → H} {P : Program} {w : World} {base : Nat} {spare : Nat → Bool} {held : Bool}
/-- Field by field: its cell and its reading. -/
theorem fields_of {r : Reach} {b0 : Nat} {t : TypeId} {fs : Array Field} {v : Value} {d : DataW H} {p : List MemPlace} (hs : P.underlying t = some (.struct fs)) (hone : oneCellFields P fs = true) (hC : P.cellsOf t = fs.size)
    (hv : Value.okWide P w r b0 t v) (h : DataW.Trod enc P w base spare held t v d p) :
    ∃ (cs : Array Value) (n : Nat), v = .agg cs ∧ cs.size = fs.size ∧ ∀ (j : Nat) (f : Field), fs[j]? = some f → ∃ c y, cs[j]? = some c ∧ DataW.trod enc P w base spare held n f.type [c] = some y := by
  obtain ⟨cs, rfl, hsz⟩ := okWide_struct hs hv
  rw [hC] at hsz
  obtain ⟨fuel, hf⟩ := h
  obtain ⟨xs, n, _, _, _, hxl, hall⟩ := DataW.trod_struct hs hf
  refine ⟨cs, n, rfl, hsz, fun j f hj => ?_⟩
  have hjs : j < fs.size := (Array.getElem?_eq_some_iff.1 hj).1
  obtain ⟨ho, hk⟩ := hone_of hone j f hj
  have h1 := hall j f hj
  have hy : xs[j]? = some (xs[j]'(by omega)) := List.getElem?_eq_getElem (by omega)
  have hcell : ((Value.agg cs).cells.toList.drop j).take 1 = [cs[j]'(by omega)] := by
    have hlen : j < cs.toList.length := by simpa using (by omega : j < cs.size)
    show (cs.toList.drop j).take 1 = _
    rw [List.drop_eq_getElem_cons hlen]
    simp
  rw [ho, hk, hcell, hy] at h1
  exact ⟨_, _, Array.getElem?_eq_getElem (by omega), h1⟩
theorem trod_float {k : FloatKind} {t : TypeId} {fuel : Nat} {cs : List Value} {x : DataW H × List MemPlace} (ht : P.underlying t = some (.float k)) (h : DataW.trod enc P w base spare held fuel t cs = some x) : ∃ n, cs = [.float k n] ∧ (Lit.float k n).wf = true := by
  cases fuel with
  | zero => simp [DataW.trod] at h
  | succ n =>
    unfold DataW.trod at h
    rw [ht] at h
    split at h <;> simp_all
end Go.Proofs.YtkibdomfiodilaaDoor.fld
