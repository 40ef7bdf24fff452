/-
  DERIVED. GIVEN WITH THE SEED: THE CARDS: each row of YtlcbcgillekphaaGreatDoorRows.lean that lists a variable, with what it lists TIED to the program's text (the seventh form; the later family's looks); each row that meets fmt, with fmt's text TOLD by the authors' own Lean function (tested against real Go, not proved from fmt's source: count such statements apart). THE CARD IS WHAT COUNTS. Prove the row's statement (the work); the ties are given (YtlcbcgillekphaaGreatDoorTie.lean); close each card by the builder's one call (the guide's Derived/Test/ToyasCard.lean, 'card_holds'). Laid BY PROGRAM, IN A SANDBOX (cutbox-door.mjs). By AI agents, Wed Nov 11 2026. No macro, syntax, notation, axiom, sorry.
-/
import Derived.Test.YtlcbcgillekphaaGreatDoorRows
import GoSem.ClaimSeven
namespace Go.Proofs.YtlcbcgillekphaaGreatDoor
namespace Rows

/-- THE TIED CARD OF 'laws.FnDecodeAll'. -/
def fnDecodeAllCard : Claim7 := { stood := { row := fnDecodeAllRow, standIns := [], harness := (true, "0c757725f880f6f49cc969019e930d2a61fff3e5ddbcdb11078194c167b099df"), looks := true }, kinds := [], alts := [], laidByText := true, laidKinds := [.data, .sentinel, .sentinel, .pinned, .pinned, .pinned, .pinned, .pinned, .pinned], laidTests := true, laidLooks := .later }
def FnDecodeAllCardSaid : Prop := Claim7.holds Tryz.pinned (.plain (OpenSpec.ofChange fnDecodeAllSpec)) fnDecodeAllCard

/-- THE TIED CARD OF 'laws.FnDecodePassed'. -/
def fnDecodePassedCard : Claim7 := { stood := { row := fnDecodePassedRow, standIns := [], harness := (true, "0c757725f880f6f49cc969019e930d2a61fff3e5ddbcdb11078194c167b099df"), looks := true }, kinds := [], alts := [], laidByText := true, laidKinds := [.data, .sentinel, .sentinel, .pinned, .pinned, .pinned, .pinned, .pinned, .pinned], laidTests := true, laidLooks := .later }
def FnDecodePassedCardSaid : Prop := Claim7.holds Tryz.pinned (.plain (OpenSpec.ofChange fnDecodePassedSpec)) fnDecodePassedCard

/-- THE SECOND FORM's CARD OF 'laws.FnDecodeAll'. -/
def fnDecodeAllUptoCard : Claim7 := { stood := { row := fnDecodeAllUptoRow, standIns := [], harness := (true, "0c757725f880f6f49cc969019e930d2a61fff3e5ddbcdb11078194c167b099df"), looks := true }, kinds := [], alts := [], laidByText := true, laidKinds := [.data, .sentinel, .sentinel, .pinned, .pinned, .pinned, .pinned, .pinned, .pinned], laidTests := true, laidLooks := .later }
def FnDecodeAllUptoCardSaid : Prop := Claim7.holds Tryz.pinned (.plain (OpenSpec.upto fnDecodeAllSpec)) fnDecodeAllUptoCard

/-- THE SECOND FORM's CARD OF 'laws.FnDecodePassed'. -/
def fnDecodePassedUptoCard : Claim7 := { stood := { row := fnDecodePassedUptoRow, standIns := [], harness := (true, "0c757725f880f6f49cc969019e930d2a61fff3e5ddbcdb11078194c167b099df"), looks := true }, kinds := [], alts := [], laidByText := true, laidKinds := [.data, .sentinel, .sentinel, .pinned, .pinned, .pinned, .pinned, .pinned, .pinned], laidTests := true, laidLooks := .later }
def FnDecodePassedUptoCardSaid : Prop := Claim7.holds Tryz.pinned (.plain (OpenSpec.upto fnDecodePassedSpec)) fnDecodePassedUptoCard
end Rows
end Go.Proofs.YtlcbcgillekphaaGreatDoor
