/-
  DERIVED. GIVEN WITH THE SEED: THE CARDS: each row of Qxb6601748aDoorRows.lean that lists a variable, with what it lists TIED to the program's text (the seventh form; the later family's looks); each row that meets fmt, with fmt's text TOLD by the authors' own Lean function (tested against real Go, not proved from fmt's source: count such statements apart). THE CARD IS WHAT COUNTS. Prove the row's statement (the work); the ties are given (Qxb6601748aDoorTie.lean); close each card by the builder's one call (the guide's Derived/Test/ToyasCard.lean, 'card_holds'). Laid BY PROGRAM, IN A SANDBOX (cutbox-door.mjs). By AI agents, Wed Nov 11 2026. No macro, syntax, notation, axiom, sorry.
-/
import Derived.Test.Qxb6601748aDoorRows
import GoSem.ClaimSeven
namespace Go.Proofs.Qxb6601748aDoor
namespace Rows

/-- THE TIED CARD OF 'zzlaws_remote_b1.FnParseChallengesRenderRoundTrip'. -/
def fnParseChallengesRenderRoundTripCard : Claim7 := { stood := { row := fnParseChallengesRenderRoundTripRow, standIns := [], harness := (true, "e81b05aacd3a0d2a5c4087299ea89883d9188b1578b9f3c0723a5c491d7759a3"), looks := false }, kinds := [], alts := [], laidByText := true, laidKinds := [.data, .pinned, .pinned], laidTests := true, laidLooks := .later }
def FnParseChallengesRenderRoundTripCardSaid : Prop := Claim7.holds Tryd.pinned (.plain (OpenSpec.ofChange fnParseChallengesRenderRoundTripSpec)) fnParseChallengesRenderRoundTripCard
end Rows
end Go.Proofs.Qxb6601748aDoor
