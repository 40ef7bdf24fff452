/-
  DERIVED. GIVEN WITH THE SEED: THE CARDS: each row of YtdlimgghcpbkcaaDoorRows.lean that lists a variable, with what it lists TIED to the program's text (the seventh form; the later family's looks); each row that meets fmt, with fmt's text TOLD by the authors' own Lean function (tested against real Go, not proved from fmt's source: count such statements apart). THE CARD IS WHAT COUNTS. Prove the row's statement (the work); the ties are given (YtdlimgghcpbkcaaDoorTie.lean); close each card by the builder's one call (the guide's Derived/Test/ToyasCard.lean, 'card_holds'). Laid BY PROGRAM, IN A SANDBOX (cutbox-door.mjs). By AI agents, Wed Nov 11 2026. No macro, syntax, notation, axiom, sorry.
-/
import Derived.Test.YtdlimgghcpbkcaaDoorRows
import GoSem.ClaimSeven
namespace Go.Proofs.YtdlimgghcpbkcaaDoor
namespace Rows

/-- THE TIED CARD OF 'laws.FnReadMoreTwice'. -/
def fnReadMoreTwiceCard : Claim7 := { stood := { row := fnReadMoreTwiceRow, standIns := [], harness := (true, "59b5a309c0f779a0b181644f1d3be49132bc97d64bbccb5872c2b11eac1528e8"), looks := true }, kinds := [], alts := [], laidByText := true, laidKinds := [.sentinel, .sentinel, .sentinel], laidTests := true, laidLooks := .later }
def FnReadMoreTwiceCardSaid : Prop := Claim7.holds Tryd.pinned (.plain (OpenSpec.ofChange fnReadMoreTwiceSpec)) fnReadMoreTwiceCard

/-- THE TIED CARD OF 'laws.FnIDText'. -/
def fnIDTextCard : Claim7 := { stood := { row := fnIDTextRow, standIns := [], harness := (true, "59b5a309c0f779a0b181644f1d3be49132bc97d64bbccb5872c2b11eac1528e8"), looks := true }, kinds := [], alts := [], laidByText := true, laidKinds := [.data, .data, .data], laidTests := true, laidLooks := .later }
def FnIDTextCardSaid : Prop := Claim7.holds Tryd.pinned (.plain (OpenSpec.ofChange fnIDTextSpec)) fnIDTextCard

/-- THE SECOND FORM's CARD OF 'laws.FnReadMoreTwice'. -/
def fnReadMoreTwiceUptoCard : Claim7 := { stood := { row := fnReadMoreTwiceUptoRow, standIns := [], harness := (true, "59b5a309c0f779a0b181644f1d3be49132bc97d64bbccb5872c2b11eac1528e8"), looks := true }, kinds := [], alts := [], laidByText := true, laidKinds := [.sentinel, .sentinel, .sentinel], laidTests := true, laidLooks := .later }
def FnReadMoreTwiceUptoCardSaid : Prop := Claim7.holds Tryd.pinned (.plain (OpenSpec.upto fnReadMoreTwiceSpec)) fnReadMoreTwiceUptoCard

/-- THE SECOND FORM's CARD OF 'laws.FnIDText'. -/
def fnIDTextUptoCard : Claim7 := { stood := { row := fnIDTextUptoRow, standIns := [], harness := (true, "59b5a309c0f779a0b181644f1d3be49132bc97d64bbccb5872c2b11eac1528e8"), looks := true }, kinds := [], alts := [], laidByText := true, laidKinds := [.data, .data, .data], laidTests := true, laidLooks := .later }
def FnIDTextUptoCardSaid : Prop := Claim7.holds Tryd.pinned (.plain (OpenSpec.upto fnIDTextSpec)) fnIDTextUptoCard
end Rows
end Go.Proofs.YtdlimgghcpbkcaaDoor
