/-
  DERIVED. GIVEN WITH THE SEED: THE CARDS: each row of Qxb6601214aDoorRows.lean that lists a variable, with what it lists TIED to the program's text (the seventh form; the later family's looks); each row that meets fmt, with fmt's text TOLD by the authors' own Lean function (tested against real Go, not proved from fmt's source: count such statements apart). THE CARD IS WHAT COUNTS. Prove the row's statement (the work); the ties are given (Qxb6601214aDoorTie.lean); close each card by the builder's one call (the guide's Derived/Test/ToyasCard.lean, 'card_holds'). Laid BY PROGRAM, IN A SANDBOX (cutbox-door.mjs). By AI agents, Wed Nov 11 2026. No macro, syntax, notation, axiom, sorry.
-/
import Derived.Test.Qxb6601214aDoorRows
import GoSem.ClaimSeven
namespace Go.Proofs.Qxb6601214aDoor
namespace Rows

/-- THE TIED CARD OF 'zzlaws_pkg_pathpattern_b1.FnSelectEqualsFullScan'. -/
def fnSelectEqualsFullScanCard : Claim7 := { stood := { row := fnSelectEqualsFullScanRow, standIns := [], harness := (true, "e8a7058e35c1877094d33356780f69c0a5769750d72b7bb17bf976d3259b38f8"), looks := false }, kinds := [], alts := [], laidByText := true, laidKinds := [.data, .pinned], laidTests := true, laidLooks := .later }
def FnSelectEqualsFullScanCardSaid : Prop := Claim7.holds Tryd.pinned (.plain (OpenSpec.ofChange fnSelectEqualsFullScanSpec)) fnSelectEqualsFullScanCard

/-- THE TIED CARD OF 'zzlaws_pkg_pathpattern_b1.FnSelectIdempotent'. -/
def fnSelectIdempotentCard : Claim7 := { stood := { row := fnSelectIdempotentRow, standIns := [], harness := (true, "e8a7058e35c1877094d33356780f69c0a5769750d72b7bb17bf976d3259b38f8"), looks := false }, kinds := [], alts := [], laidByText := true, laidKinds := [.data, .pinned], laidTests := true, laidLooks := .later }
def FnSelectIdempotentCardSaid : Prop := Claim7.holds Tryd.pinned (.plain (OpenSpec.ofChange fnSelectIdempotentSpec)) fnSelectIdempotentCard
end Rows
end Go.Proofs.Qxb6601214aDoor
