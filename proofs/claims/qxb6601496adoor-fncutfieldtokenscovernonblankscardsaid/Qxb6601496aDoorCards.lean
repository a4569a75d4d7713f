/-
  DERIVED. GIVEN WITH THE SEED: THE CARDS: each row of Qxb6601496aDoorRows.lean that lists a variable, with what it lists TIED to the program's text (the seventh form; the later family's looks); each row that meets fmt, with fmt's text TOLD by the authors' own Lean function (tested against real Go, not proved from fmt's source: count such statements apart). THE CARD IS WHAT COUNTS. Prove the row's statement (the work); the ties are given (Qxb6601496aDoorTie.lean); close each card by the builder's one call (the guide's Derived/Test/ToyasCard.lean, 'card_holds'). Laid BY PROGRAM, IN A SANDBOX (cutbox-door.mjs). By AI agents, Wed Nov 11 2026. No macro, syntax, notation, axiom, sorry.
-/
import Derived.Test.Qxb6601496aDoorRows
import GoSem.ClaimSeven
namespace Go.Proofs.Qxb6601496aDoor
namespace Rows

/-- THE TIED CARD OF 'zzlaws_wire_b1.FnCutFieldMatchesScan'. -/
def fnCutFieldMatchesScanCard : Claim7 := { stood := { row := fnCutFieldMatchesScanRow, standIns := [], harness := (true, "e081fb513fcff72c1fbcfb0b0482ab307215307a157bb12c62ca04fb280e672d"), looks := false }, kinds := [], alts := [], laidByText := true, laidKinds := [.data, .pinned], laidTests := true, laidLooks := .later }
def FnCutFieldMatchesScanCardSaid : Prop := Claim7.holds Tryd.pinned (.plain (OpenSpec.ofChange fnCutFieldMatchesScanSpec)) fnCutFieldMatchesScanCard

/-- THE TIED CARD OF 'zzlaws_wire_b1.FnCutFieldRecutAndPadding'. -/
def fnCutFieldRecutAndPaddingCard : Claim7 := { stood := { row := fnCutFieldRecutAndPaddingRow, standIns := [], harness := (true, "e081fb513fcff72c1fbcfb0b0482ab307215307a157bb12c62ca04fb280e672d"), looks := false }, kinds := [], alts := [], laidByText := true, laidKinds := [.data, .pinned], laidTests := true, laidLooks := .later }
def FnCutFieldRecutAndPaddingCardSaid : Prop := Claim7.holds Tryd.pinned (.plain (OpenSpec.ofChange fnCutFieldRecutAndPaddingSpec)) fnCutFieldRecutAndPaddingCard

/-- THE TIED CARD OF 'zzlaws_wire_b1.FnCutFieldTokensCoverNonBlanks'. -/
def fnCutFieldTokensCoverNonBlanksCard : Claim7 := { stood := { row := fnCutFieldTokensCoverNonBlanksRow, standIns := [], harness := (true, "e081fb513fcff72c1fbcfb0b0482ab307215307a157bb12c62ca04fb280e672d"), looks := false }, kinds := [], alts := [], laidByText := true, laidKinds := [.data, .pinned], laidTests := true, laidLooks := .later }
def FnCutFieldTokensCoverNonBlanksCardSaid : Prop := Claim7.holds Tryd.pinned (.plain (OpenSpec.ofChange fnCutFieldTokensCoverNonBlanksSpec)) fnCutFieldTokensCoverNonBlanksCard
end Rows
end Go.Proofs.Qxb6601496aDoor
