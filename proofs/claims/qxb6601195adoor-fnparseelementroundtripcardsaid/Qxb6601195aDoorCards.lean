/-
  DERIVED. GIVEN WITH THE SEED: THE CARDS: each row of Qxb6601195aDoorRows.lean that lists a variable, with what it lists TIED to the program's text (the seventh form; the later family's looks); each row that meets fmt, with fmt's text TOLD by the authors' own Lean function (tested against real Go, not proved from fmt's source: count such statements apart). THE CARD IS WHAT COUNTS. Prove the row's statement (the work); the ties are given (Qxb6601195aDoorTie.lean); close each card by the builder's one call (the guide's Derived/Test/ToyasCard.lean, 'card_holds'). Laid BY PROGRAM, IN A SANDBOX (cutbox-door.mjs). By AI agents, Wed Nov 11 2026. No macro, syntax, notation, axiom, sorry.
-/
import Derived.Test.Qxb6601195aDoorRows
import GoSem.ClaimSeven
namespace Go.Proofs.Qxb6601195aDoor
namespace Rows

/-- THE TIED CARD OF 'zzlaws_internal_forwarded_b1.FnParseElementRoundTrip'. -/
def fnParseElementRoundTripCard : Claim7 := { stood := { row := fnParseElementRoundTripRow, standIns := [], harness := (true, "488aa2df272d5e770d9d12e37aa63ac1134faa5ae981a78dc3c5602279e6d81e"), looks := false }, kinds := [], alts := [], laidByText := true, laidKinds := [.data, .data, .data, .pinned, .pinned], laidTests := true, laidLooks := .later }
def FnParseElementRoundTripCardSaid : Prop := Claim7.holds Tryd.pinned (.plain (OpenSpec.ofChange fnParseElementRoundTripSpec)) fnParseElementRoundTripCard

/-- THE TIED CARD OF 'zzlaws_internal_forwarded_b1.FnParseElementRefusesRepeat'. -/
def fnParseElementRefusesRepeatCard : Claim7 := { stood := { row := fnParseElementRefusesRepeatRow, standIns := [], harness := (true, "488aa2df272d5e770d9d12e37aa63ac1134faa5ae981a78dc3c5602279e6d81e"), looks := false }, kinds := [], alts := [], laidByText := true, laidKinds := [.data, .data, .data, .pinned, .pinned], laidTests := true, laidLooks := .later }
def FnParseElementRefusesRepeatCardSaid : Prop := Claim7.holds Tryd.pinned (.plain (OpenSpec.ofChange fnParseElementRefusesRepeatSpec)) fnParseElementRefusesRepeatCard
end Rows
end Go.Proofs.Qxb6601195aDoor
