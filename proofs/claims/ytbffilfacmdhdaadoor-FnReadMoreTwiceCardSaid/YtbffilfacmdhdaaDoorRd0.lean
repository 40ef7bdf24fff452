/-
  Proved: what a reader in pieces is (its cells), for the laws on its Read.
  Conditions: each law's own.
-/
import Derived.Test.YtbffilfacmdhdaaDoorRw
import Derived.Test.YtbffilfacmdhdaaDoorBufR
import Derived.WalkLawsBesides
import Derived.WalkSpells
import Derived.Outline
import Derived.Deep.QuietTactic
import Derived.BigQuiet
import Derived.Deep.RegionHeld3
namespace Go.Proofs.YtbffilfacmdhdaaDoor.dec
open Go.RowKit Mem rw
set_option linter.unusedVariables false

/-- What is taken for given of a reader: the world at its beginning, its block, the sizes of the pieces. -/
structure Cfg where
  w0 : World
  R : Nat
  sa : Option Addr
  sc : Nat
  zs : List Int
structure Base (G : Cfg) : Prop where
  sizes : ∀ (j : Nat) (z : Int), G.zs[j]? = some z → ∃ A off, G.sa = some ⟨A, off, none⟩ ∧ G.w0.cell? ⟨A, off + j, none⟩ = some (.int .i64 z)
  pos : G.zs = [] ∨ ∃ (j : Nat) (z : Int), G.zs[j]? = some z ∧ 0 < z
  few : G.zs.length ≤ 100
  big : ∀ z ∈ G.zs, z ≤ 9223372036854775807
  rlo : G.w0.heap.size ≤ G.R
/-- How far a size of more than nothing is away. -/
def dist (j0 n a : Nat) : Nat := if a % n ≤ j0 then j0 - a % n else j0 + n - a % n
/-- The reader has so much left; it has been read at_ times. -/
structure Rd (G : Cfg) (w : World) (left : List UInt8) (at_ : Nat) : Prop where
  row : Rw w G.R [.string ⟨left.toArray⟩, .slice G.sa G.zs.length G.sc, .int .i64 at_, .bool false] 61
  few : G.zs = [] → at_ = 0
  le : at_ + left.length * G.zs.length + dist (G.zs.findIdx fun z => decide (0 < z)) G.zs.length at_ ≤ 1000000
end Go.Proofs.YtbffilfacmdhdaaDoor.dec
