/-
  Proved: what a row's listed variables give a decode: io.EOF and the two tables of utf8.
  Conditions: they read as the row lists them.
-/
import Derived.Test.YtlcbcgillekphaaDoorDfa
import Derived.Stop.LaidErr
import Derived.Lib.LaidU8T
import Derived.LaidLaws
namespace Go.Proofs.YtlcbcgillekphaaDoor.dec
open Go.RowKit Mem rw Go.ChangeShapes
set_option linter.unusedVariables false

def u8ren : Go.Shelf.Ren := ⟨fun n => n, fun | 5 => 5 | 119 => 65 | 138 => 85 | 139 => 86 | n => n, fun | 3 => 0 | 4 => 1 | n => n⟩
theorem u8types : U8Types Tryd.prog u8ren := ⟨by kernel_rfl, by kernel_rfl, by kernel_rfl, by kernel_rfl⟩
theorem laid_tabs {w : World} (h3 : Lib.VarReads Tryd.prog w "unicode/utf8.first" Lib.firstData) (h4 : Lib.VarReads Tryd.prog w "unicode/utf8.acceptRanges" Lib.acceptData) : Lib.Utf8Tabs 0 1 w :=
  utf8Tabs_of_readsT (ρ := u8ren) u8types ⟨by kernel_rfl, by kernel_rfl, by kernel_rfl, by kernel_rfl, by kernel_rfl, by kernel_rfl, by kernel_rfl⟩ h3 h4
theorem star : "*" ++ "errors.errorString" = "*errors.errorString" := by decide
theorem rowErr (u : TypeId) (h : Tryd.prog.typeName? 3 u = some "*errors.errorString") : u = 91 :=
  typeName_ptr_named (nm := "errors.errorString") (by rw [star]; kernel_rfl) (by kernel_rfl) (by decide) u (by rw [star]; exact h)
theorem laid_eof {W : World} {text : List UInt8} {r : List (String × DataW Unit)} (h : laidMet Tryd.prog (("io.EOF", .iface "*errors.errorString" (.ptr (.agg [.lit (.string text)]))) :: r) W) :
    ∃ ev, W.cell? ⟨2, 0, none⟩ = some (.iface 91 (.pointer (some ev))) := by
  have hgF : Tryd.prog.globalNamed "io.EOF" = some 2 := by kernel_rfl
  obtain ⟨a1, s1, hv1, hc1, hs1, hz1⟩ := laid_sentinel h hgF (by kernel_rfl) Tryd.underlying43 rowErr Tryd.underlying91 Tryd.underlying93 rfl rfl Tryd.underlying9 (by kernel_rfl) (by kernel_rfl)
  exact ⟨a1, by simpa using World.var?_cell hgF hv1 0⟩
end Go.Proofs.YtlcbcgillekphaaDoor.dec
