/-
  DERIVED. GIVEN WITH THE SEED: THE CARDS: each row of YtbffilfacmdhdaaDoorRows.lean that lists a variable, with what it lists TIED to the program's text (the seventh form; the later family's looks); each row that meets fmt, with fmt's text TOLD by the authors' own Lean function (tested against real Go, not proved from fmt's source: count such statements apart). THE CARD IS WHAT COUNTS. Prove the row's statement (the work); the ties are given (YtbffilfacmdhdaaDoorTie.lean); close each card by the builder's one call (the guide's Derived/Test/ToyasCard.lean, 'card_holds'). Laid BY PROGRAM, IN A SANDBOX (cutbox-door.mjs). By AI agents, Wed Nov 11 2026. No macro, syntax, notation, axiom, sorry.
-/
import Derived.Test.YtbffilfacmdhdaaDoorRows
import GoSem.ClaimSeven
namespace Go.Proofs.YtbffilfacmdhdaaDoor
namespace Rows

/-- THE TIED CARD OF 'laws.FnReadMoreTwice'. -/
def fnReadMoreTwiceCard : Claim7 := { stood := { row := fnReadMoreTwiceRow, standIns := [], harness := (true, "0ecad25a8a51712fba62d3a72424138044755d100b082a6fec3e071e862a59d8"), looks := true }, kinds := [], alts := [], laidByText := true, laidKinds := [.sentinel, .sentinel, .sentinel], laidTests := true, laidLooks := .later }
def FnReadMoreTwiceCardSaid : Prop := Claim7.holds Tryd.pinned (.plain (OpenSpec.ofChange fnReadMoreTwiceSpec)) fnReadMoreTwiceCard

/-- THE SECOND FORM's CARD OF 'laws.FnReadMoreTwice'. -/
def fnReadMoreTwiceUptoCard : Claim7 := { stood := { row := fnReadMoreTwiceUptoRow, standIns := [], harness := (true, "0ecad25a8a51712fba62d3a72424138044755d100b082a6fec3e071e862a59d8"), looks := true }, kinds := [], alts := [], laidByText := true, laidKinds := [.sentinel, .sentinel, .sentinel], laidTests := true, laidLooks := .later }
def FnReadMoreTwiceUptoCardSaid : Prop := Claim7.holds Tryd.pinned (.plain (OpenSpec.upto fnReadMoreTwiceSpec)) fnReadMoreTwiceUptoCard
end Rows
end Go.Proofs.YtbffilfacmdhdaaDoor
