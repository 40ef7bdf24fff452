/-
  Proved: what a row's listed variables give a decode: io.EOF and the two tables of utf8 · what a row's listed variables give an entry's decode: io.EOF, the package's error of values out of range.
  Conditions: each law's own; a text of at most 4000 bytes where one is read.
-/
import Derived.Test.YtlcbcgillekphaaGreatDoorDfa
import Derived.Stop.LaidErr
import Derived.Lib.LaidU8T
import Derived.LaidLaws
import Derived.Test.YtlcbcgillekphaaGreatDoorDhh
import Derived.Stop.LaidTwo
namespace Go.Proofs.YtlcbcgillekphaaGreatDoor.dec
open Go.RowKit Mem rw Go.ChangeShapes
set_option linter.unusedVariables false

def u8ren : Go.Shelf.Ren := ⟨fun n => n, fun | 5 => 5 | 119 => 99 | 138 => 133 | 139 => 134 | n => n, fun | 3 => 2 | 4 => 3 | n => n⟩
theorem u8types : U8Types Tryz.prog u8ren := ⟨by kernel_rfl, by kernel_rfl, by kernel_rfl, by kernel_rfl⟩
theorem laid_tabs {w : World} (h3 : Lib.VarReads Tryz.prog w "unicode/utf8.first" Lib.firstData) (h4 : Lib.VarReads Tryz.prog w "unicode/utf8.acceptRanges" Lib.acceptData) : Lib.Utf8Tabs 2 3 w :=
  utf8Tabs_of_readsT (ρ := u8ren) u8types ⟨by kernel_rfl, by kernel_rfl, by kernel_rfl, by kernel_rfl, by kernel_rfl, by kernel_rfl, by kernel_rfl⟩ h3 h4
theorem star : "*" ++ "errors.errorString" = "*errors.errorString" := by decide
theorem rowErr (u : TypeId) (h : Tryz.prog.typeName? 3 u = some "*errors.errorString") : u = 119 :=
  typeName_ptr_named (nm := "errors.errorString") (by rw [star]; kernel_rfl) (by kernel_rfl) (by decide) u (by rw [star]; exact h)
theorem laid_eof {W : World} {text : List UInt8} {r : List (String × DataW Unit)} (h : laidMet Tryz.prog (("io.EOF", .iface "*errors.errorString" (.ptr (.agg [.lit (.string text)]))) :: r) W) :
    ∃ ev, W.cell? ⟨1, 0, none⟩ = some (.iface 119 (.pointer (some ev))) := by
  have hgF : Tryz.prog.globalNamed "io.EOF" = some 1 := by kernel_rfl
  obtain ⟨a1, s1, hv1, hc1, hs1, hz1⟩ := laid_sentinel h hgF (by kernel_rfl) Tryz.underlying56 rowErr Tryz.underlying119 Tryz.underlying121 rfl rfl Tryz.underlying9 (by kernel_rfl) (by kernel_rfl)
  exact ⟨a1, by simpa using World.var?_cell hgF hv1 0⟩
end Go.Proofs.YtlcbcgillekphaaGreatDoor.dec
namespace Go.Proofs.YtlcbcgillekphaaGreatDoor.dec
open Go.RowKit Mem rw Go.ChangeShapes
set_option linter.unusedVariables false

theorem laid_both {W : World} {text text1 : List UInt8} {r : List (String × DataW Unit)} (h : laidMet Tryz.prog (("io.EOF", .iface "*errors.errorString" (.ptr (.agg [.lit (.string text)]))) :: ("pub-teleprinter/pub/lineprotocol/lineprotocol.ErrValueOutOfRange", .iface "*errors.errorString" (.ptr (.agg [.lit (.string text1)]))) :: r) W) :
    ∃ ev, W.cell? ⟨1, 0, none⟩ = some (.iface 119 (.pointer (some ev))) ∧ Ovr W := by
  have hg0 : Tryz.prog.globalNamed "io.EOF" = some 1 := by kernel_rfl
  have hg1 : Tryz.prog.globalNamed "pub-teleprinter/pub/lineprotocol/lineprotocol.ErrValueOutOfRange" = some 0 := by kernel_rfl
  obtain ⟨a0, a1, s0, s1, c0, c1, t0, t1, hv0, hv1, hc0, hs0, hz0, hc1, hs1, hz1, hne, hb0, hb1⟩ := laid_sentinels2 h hg0 (by kernel_rfl) hg1 (by kernel_rfl) Tryz.underlying56 rowErr Tryz.underlying119 Tryz.underlying121 rfl rfl Tryz.underlying9 (by kernel_rfl) (by kernel_rfl)
  exact ⟨a0, by simpa using World.var?_cell hg0 hv0 0, a1, c1, t1, by simpa using World.var?_cell hg1 hv1 0, hb1⟩
end Go.Proofs.YtlcbcgillekphaaGreatDoor.dec
