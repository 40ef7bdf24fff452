/-
  DERIVED. GIVEN WITH THE SEED: THE CARDS: each row of YtciicifdehicgaaDoorRows.lean that lists a variable, with what it lists TIED to the program's text (the seventh form; the later family's looks); each row that meets fmt, with fmt's text TOLD by the authors' own Lean function (tested against real Go, not proved from fmt's source: count such statements apart). THE CARD IS WHAT COUNTS. Prove the row's statement (the work); the ties are given (YtciicifdehicgaaDoorTie.lean); close each card by the builder's one call (the guide's Derived/Test/ToyasCard.lean, 'card_holds'). Laid BY PROGRAM, IN A SANDBOX (cutbox-door.mjs). By AI agents, Wed Nov 11 2026. No macro, syntax, notation, axiom, sorry.
-/
import Derived.Test.YtciicifdehicgaaDoorRows
import GoSem.ClaimSeven
namespace Go.Proofs.YtciicifdehicgaaDoor
namespace Rows

/-- THE TIED CARD OF 'laws.FnKindUnmarshal'. -/
def fnKindUnmarshalCard : Claim7 := { stood := { row := fnKindUnmarshalRow, standIns := [], harness := (true, "65a8de47fe606c137f17419a8e0c22cd1fc51eca25025aa1b9286bd2ede970d4"), looks := false }, kinds := [], alts := [], laidByText := true, laidKinds := [.data], laidTests := true, laidLooks := .later }
def FnKindUnmarshalCardSaid : Prop := Claim7.holds Tryd.pinned (.plain (OpenSpec.ofChange fnKindUnmarshalSpec)) fnKindUnmarshalCard

/-- THE SECOND FORM's CARD OF 'laws.FnKindUnmarshal'. -/
def fnKindUnmarshalUptoCard : Claim7 := { stood := { row := fnKindUnmarshalUptoRow, standIns := [], harness := (true, "65a8de47fe606c137f17419a8e0c22cd1fc51eca25025aa1b9286bd2ede970d4"), looks := false }, kinds := [], alts := [], laidByText := true, laidKinds := [.data], laidTests := true, laidLooks := .later }
def FnKindUnmarshalUptoCardSaid : Prop := Claim7.holds Tryd.pinned (.plain (OpenSpec.upto fnKindUnmarshalSpec)) fnKindUnmarshalUptoCard
end Rows
end Go.Proofs.YtciicifdehicgaaDoor
