/-
  DERIVED. GIVEN WITH THE SEED: THE CARDS: each row of YtlcbcgillekphaaDoorRows.lean that lists a variable, with what it lists TIED to the program's text (the seventh form; the later family's looks); each row that meets fmt, with fmt's text TOLD by the authors' own Lean function (tested against real Go, not proved from fmt's source: count such statements apart). THE CARD IS WHAT COUNTS. Prove the row's statement (the work); the ties are given (YtlcbcgillekphaaDoorTie.lean); close each card by the builder's one call (the guide's Derived/Test/ToyasCard.lean, 'card_holds'). Laid BY PROGRAM, IN A SANDBOX (cutbox-door.mjs). By AI agents, Wed Nov 11 2026. No macro, syntax, notation, axiom, sorry.
-/
import Derived.Test.YtlcbcgillekphaaDoorRows
import GoSem.ClaimSeven
namespace Go.Proofs.YtlcbcgillekphaaDoor
namespace Rows

/-- THE TIED CARD OF 'laws.FnTakeEsc'. -/
def fnTakeEscCard : Claim7 := { stood := { row := fnTakeEscRow, standIns := [], harness := (true, "c7ecdca464b39b3515414ce0f1b1c47a0b3cb12c451c1cfbd7f6f8bb18f1cffc"), looks := true }, kinds := [], alts := [], laidByText := true, laidKinds := [.data, .sentinel, .pinned, .pinned, .pinned, .pinned, .pinned, .pinned], laidTests := true, laidLooks := .later }
def FnTakeEscCardSaid : Prop := Claim7.holds Tryd.pinned (.plain (OpenSpec.ofChange fnTakeEscSpec)) fnTakeEscCard

/-- THE TIED CARD OF 'laws.FnTakeAgain'. -/
def fnTakeAgainCard : Claim7 := { stood := { row := fnTakeAgainRow, standIns := [], harness := (true, "c7ecdca464b39b3515414ce0f1b1c47a0b3cb12c451c1cfbd7f6f8bb18f1cffc"), looks := true }, kinds := [], alts := [], laidByText := true, laidKinds := [.data, .sentinel, .pinned, .pinned, .pinned, .pinned, .pinned, .pinned], laidTests := true, laidLooks := .later }
def FnTakeAgainCardSaid : Prop := Claim7.holds Tryd.pinned (.plain (OpenSpec.ofChange fnTakeAgainSpec)) fnTakeAgainCard

/-- THE SECOND FORM's CARD OF 'laws.FnTakeEsc'. -/
def fnTakeEscUptoCard : Claim7 := { stood := { row := fnTakeEscUptoRow, standIns := [], harness := (true, "c7ecdca464b39b3515414ce0f1b1c47a0b3cb12c451c1cfbd7f6f8bb18f1cffc"), looks := true }, kinds := [], alts := [], laidByText := true, laidKinds := [.data, .sentinel, .pinned, .pinned, .pinned, .pinned, .pinned, .pinned], laidTests := true, laidLooks := .later }
def FnTakeEscUptoCardSaid : Prop := Claim7.holds Tryd.pinned (.plain (OpenSpec.upto fnTakeEscSpec)) fnTakeEscUptoCard

/-- THE SECOND FORM's CARD OF 'laws.FnTakeAgain'. -/
def fnTakeAgainUptoCard : Claim7 := { stood := { row := fnTakeAgainUptoRow, standIns := [], harness := (true, "c7ecdca464b39b3515414ce0f1b1c47a0b3cb12c451c1cfbd7f6f8bb18f1cffc"), looks := true }, kinds := [], alts := [], laidByText := true, laidKinds := [.data, .sentinel, .pinned, .pinned, .pinned, .pinned, .pinned, .pinned], laidTests := true, laidLooks := .later }
def FnTakeAgainUptoCardSaid : Prop := Claim7.holds Tryd.pinned (.plain (OpenSpec.upto fnTakeAgainSpec)) fnTakeAgainUptoCard
end Rows
end Go.Proofs.YtlcbcgillekphaaDoor
