/-
  DERIVED. GIVEN WITH THE SEED: THE CARDS: each row of YtkibdomfiodilaaDoorRows.lean that lists a variable, with what it lists TIED to the program's text (the seventh form; the later family's looks); each row that meets fmt, with fmt's text TOLD by the authors' own Lean function (tested against real Go, not proved from fmt's source: count such statements apart). THE CARD IS WHAT COUNTS. Prove the row's statement (the work); the ties are given (YtkibdomfiodilaaDoorTie.lean); close each card by the builder's one call (the guide's Derived/Test/ToyasCard.lean, 'card_holds'). Laid BY PROGRAM, IN A SANDBOX (cutbox-door.mjs). By AI agents, Wed Nov 11 2026. No macro, syntax, notation, axiom, sorry.
-/
import Derived.Test.YtkibdomfiodilaaDoorRows
import GoSem.ClaimSeven
namespace Go.Proofs.YtkibdomfiodilaaDoor
namespace Rows

/-- THE TIED CARD OF 'laws.FnValueGet'. -/
def fnValueGetCard : Claim7 := { stood := { row := fnValueGetRow, standIns := [], harness := (true, "a7b16224d4113c234098b0fd2450fb686f44251de1ca6ec1a079663affa554a4"), looks := false }, kinds := [], alts := [], laidByText := true, laidKinds := [.data, .pinned], laidTests := true, laidLooks := .later }
def FnValueGetCardSaid : Prop := Claim7.holds Tryd.pinned (.plain (OpenSpec.ofChange fnValueGetSpec)) fnValueGetCard

/-- THE TIED CARD OF 'laws.FnEscape'. -/
def fnEscapeCard : Claim7 := { stood := { row := fnEscapeRow, standIns := [], harness := (true, "a7b16224d4113c234098b0fd2450fb686f44251de1ca6ec1a079663affa554a4"), looks := false }, kinds := [], alts := [], laidByText := true, laidKinds := [.pinned, .pinned, .pinned, .pinned, .pinned], laidTests := true, laidLooks := .later }
def FnEscapeCardSaid : Prop := Claim7.holds Tryd.pinned (.plain (OpenSpec.ofChange fnEscapeSpec)) fnEscapeCard

/-- THE TIED CARD OF 'laws.FnEscapeJoin'. -/
def fnEscapeJoinCard : Claim7 := { stood := { row := fnEscapeJoinRow, standIns := [], harness := (true, "a7b16224d4113c234098b0fd2450fb686f44251de1ca6ec1a079663affa554a4"), looks := false }, kinds := [], alts := [], laidByText := true, laidKinds := [.pinned, .pinned, .pinned, .pinned, .pinned], laidTests := true, laidLooks := .later }
def FnEscapeJoinCardSaid : Prop := Claim7.holds Tryd.pinned (.plain (OpenSpec.ofChange fnEscapeJoinSpec)) fnEscapeJoinCard

/-- THE TIED CARD OF 'laws.FnStreamsKeys'. -/
def fnStreamsKeysCard : Claim7 := { stood := { row := fnStreamsKeysRow, standIns := [], harness := (true, "a7b16224d4113c234098b0fd2450fb686f44251de1ca6ec1a079663affa554a4"), looks := false }, kinds := [], alts := [], laidByText := true, laidKinds := [.data, .pinned, .pinned], laidTests := true, laidLooks := .later }
def FnStreamsKeysCardSaid : Prop := Claim7.holds Tryd.pinned (.plain (OpenSpec.ofChange fnStreamsKeysSpec)) fnStreamsKeysCard

/-- THE SECOND FORM's CARD OF 'laws.FnValueGet'. -/
def fnValueGetUptoCard : Claim7 := { stood := { row := fnValueGetUptoRow, standIns := [], harness := (true, "a7b16224d4113c234098b0fd2450fb686f44251de1ca6ec1a079663affa554a4"), looks := false }, kinds := [], alts := [], laidByText := true, laidKinds := [.data, .pinned], laidTests := true, laidLooks := .later }
def FnValueGetUptoCardSaid : Prop := Claim7.holds Tryd.pinned (.plain (OpenSpec.upto fnValueGetSpec)) fnValueGetUptoCard

/-- THE SECOND FORM's CARD OF 'laws.FnEscape'. -/
def fnEscapeUptoCard : Claim7 := { stood := { row := fnEscapeUptoRow, standIns := [], harness := (true, "a7b16224d4113c234098b0fd2450fb686f44251de1ca6ec1a079663affa554a4"), looks := false }, kinds := [], alts := [], laidByText := true, laidKinds := [.pinned, .pinned, .pinned, .pinned, .pinned], laidTests := true, laidLooks := .later }
def FnEscapeUptoCardSaid : Prop := Claim7.holds Tryd.pinned (.plain (OpenSpec.upto fnEscapeSpec)) fnEscapeUptoCard

/-- THE SECOND FORM's CARD OF 'laws.FnEscapeJoin'. -/
def fnEscapeJoinUptoCard : Claim7 := { stood := { row := fnEscapeJoinUptoRow, standIns := [], harness := (true, "a7b16224d4113c234098b0fd2450fb686f44251de1ca6ec1a079663affa554a4"), looks := false }, kinds := [], alts := [], laidByText := true, laidKinds := [.pinned, .pinned, .pinned, .pinned, .pinned], laidTests := true, laidLooks := .later }
def FnEscapeJoinUptoCardSaid : Prop := Claim7.holds Tryd.pinned (.plain (OpenSpec.upto fnEscapeJoinSpec)) fnEscapeJoinUptoCard

/-- THE SECOND FORM's CARD OF 'laws.FnStreamsKeys'. -/
def fnStreamsKeysUptoCard : Claim7 := { stood := { row := fnStreamsKeysUptoRow, standIns := [], harness := (true, "a7b16224d4113c234098b0fd2450fb686f44251de1ca6ec1a079663affa554a4"), looks := false }, kinds := [], alts := [], laidByText := true, laidKinds := [.data, .pinned, .pinned], laidTests := true, laidLooks := .later }
def FnStreamsKeysUptoCardSaid : Prop := Claim7.holds Tryd.pinned (.plain (OpenSpec.upto fnStreamsKeysSpec)) fnStreamsKeysUptoCard
end Rows
end Go.Proofs.YtkibdomfiodilaaDoor
