/-
  NARROWER THAN 'FOR EVERY INPUT', by the rows' own cells (each row's printed sentence says how): FnSelectEqualsFullScan: laid · FnSelectIdempotent: laid.
  DERIVED. THE GIVEN ROWS OF THIS SEAT. 2 by the template 'for every input the law returns true; each argument reads behind the call as it read before'; 0 by the template 'total and deterministic' (their statements: Qxb6601214aDoorTotals.lean).
  GIVEN WITH THE SEED: the statements are not yours to turn. If you find one false, say at which input.
  Laid BY PROGRAM, IN A SANDBOX (cutbox-rows.mjs): the forced cells as the released guide's own fill.sh prints them over the translation 1590143543f791ba… (all of the seat's roots in one cut). By AI agents, Wed Nov 11 2026. No macro, syntax, notation, axiom, sorry.
-/
import Derived.Test.Qxb6601214aDoorChecked
import GoSem.PinnedTables
import GoSem.Claim
import GoSem.ClaimJoined
import GoSem.ClaimMapViews
import Derived.JoinedTies
import Derived.KernelRfl
namespace Go.Proofs.Qxb6601214aDoor
/- THE CELL 'sum', in the pinned program and in every row, IS THE sha256 OF THE DUMP (.gsa) THAT Qxb6601214aDoorProg.lean LOADS. Nothing in Lean hashes anything: it is a label: what it is worth is what the hold of that sum in a sandbox is worth. -/
noncomputable def Tryd.pinned : Pinned := { name := "qxb6601214adoor", sum := "1590143543f791ba3856f117068bd0781f0897661b6781fbb8c4b27303f9613b", checked := Tryd.checked }
namespace Rows
def none {H : Type} : Left H := { results := [], args := [] }

/- WHAT THE LISTED PACKAGE-LEVEL VARIABLES READ AS WHEN THE CALL BEGINS. Each datum BY PROGRAM (the guide's laid-datum.mjs) off the statement by which the dump's own 'gosem.cut.vars' lays the variable. In a bare row this is a premise. The card (Qxb6601214aDoorCards.lean) ties it to the program's text. -/
def laid_unicode_utf8_acceptRanges {H : Type} : DataW H := .agg [.agg [.lit (.int .u8 128), .lit (.int .u8 191)], .agg [.lit (.int .u8 160), .lit (.int .u8 191)], .agg [.lit (.int .u8 128), .lit (.int .u8 159)], .agg [.lit (.int .u8 144), .lit (.int .u8 191)], .agg [.lit (.int .u8 128), .lit (.int .u8 143)], .agg [.lit (.int .u8 0), .lit (.int .u8 0)], .agg [.lit (.int .u8 0), .lit (.int .u8 0)], .agg [.lit (.int .u8 0), .lit (.int .u8 0)], .agg [.lit (.int .u8 0), .lit (.int .u8 0)], .agg [.lit (.int .u8 0), .lit (.int .u8 0)], .agg [.lit (.int .u8 0), .lit (.int .u8 0)], .agg [.lit (.int .u8 0), .lit (.int .u8 0)], .agg [.lit (.int .u8 0), .lit (.int .u8 0)], .agg [.lit (.int .u8 0), .lit (.int .u8 0)], .agg [.lit (.int .u8 0), .lit (.int .u8 0)], .agg [.lit (.int .u8 0), .lit (.int .u8 0)]]
/-- One of Go's own tables, pinned by name: the form's constant. -/
def laid_unicode_utf8_first : DataW Unit := Go.Pinned.utf8First

/-- 'zzlaws_pkg_pathpattern_b1.FnSelectEqualsFullScan': WHATEVER THE INPUT: true; the input reads as it did. -/
def fnSelectEqualsFullScanSpec : ChangeSpec := { name := "fnSelectEqualsFullScan", fn := fun _ => fun
  | [d1, d2] => { results := [.lit (.bool true)], args := [d1, d2] }
  | _ => none }
def fnSelectEqualsFullScanRow : OpenClaim := { program := "qxb6601214adoor", sum := "1590143543f791ba3856f117068bd0781f0897661b6781fbb8c4b27303f9613b", func := "example.com/espalier/espalier/zzlaws_pkg_pathpattern_b1.FnSelectEqualsFullScan", spec := "fnSelectEqualsFullScan", inPlace := ["internal/bytealg.IndexByteString", "internal/bytealg.IndexString", "internal/abi.NoEscape", "internal/bytealg.MakeNoZero", "internal/bytealg.CountString"], unfollowed := true, recurses := true, named := ["internal/bytealg.MaxLen", "unicode/utf8.first", "unicode/utf8.acceptRanges"], apart := false, laid := [("unicode/utf8.acceptRanges", laid_unicode_utf8_acceptRanges), ("unicode/utf8.first", laid_unicode_utf8_first)] }
def FnSelectEqualsFullScanSaid : Prop := fnSelectEqualsFullScanRow.holds Tryd.pinned (OpenSpec.ofChange fnSelectEqualsFullScanSpec)

/-- ITS FALSE NEIGHBOUR: 'it returns false'. Refute it at one input. -/
def fnSelectEqualsFullScanWrong : ChangeSpec := { name := "fnSelectEqualsFullScan", fn := fun _ => fun
  | [d1, d2] => { results := [.lit (.bool false)], args := [d1, d2] }
  | _ => none }
def FnSelectEqualsFullScanWrongFalsely : Prop := fnSelectEqualsFullScanRow.holds Tryd.pinned (OpenSpec.ofChange fnSelectEqualsFullScanWrong)

/-- 'zzlaws_pkg_pathpattern_b1.FnSelectIdempotent': WHATEVER THE INPUT: true; the input reads as it did. -/
def fnSelectIdempotentSpec : ChangeSpec := { name := "fnSelectIdempotent", fn := fun _ => fun
  | [d1, d2] => { results := [.lit (.bool true)], args := [d1, d2] }
  | _ => none }
def fnSelectIdempotentRow : OpenClaim := { program := "qxb6601214adoor", sum := "1590143543f791ba3856f117068bd0781f0897661b6781fbb8c4b27303f9613b", func := "example.com/espalier/espalier/zzlaws_pkg_pathpattern_b1.FnSelectIdempotent", spec := "fnSelectIdempotent", inPlace := ["internal/bytealg.IndexByteString", "internal/bytealg.IndexString", "internal/abi.NoEscape", "internal/bytealg.MakeNoZero", "internal/bytealg.CountString"], unfollowed := true, recurses := true, named := ["internal/bytealg.MaxLen", "unicode/utf8.first", "unicode/utf8.acceptRanges"], apart := false, laid := [("unicode/utf8.acceptRanges", laid_unicode_utf8_acceptRanges), ("unicode/utf8.first", laid_unicode_utf8_first)] }
def FnSelectIdempotentSaid : Prop := fnSelectIdempotentRow.holds Tryd.pinned (OpenSpec.ofChange fnSelectIdempotentSpec)

/-- ITS FALSE NEIGHBOUR: 'it returns false'. Refute it at one input. -/
def fnSelectIdempotentWrong : ChangeSpec := { name := "fnSelectIdempotent", fn := fun _ => fun
  | [d1, d2] => { results := [.lit (.bool false)], args := [d1, d2] }
  | _ => none }
def FnSelectIdempotentWrongFalsely : Prop := fnSelectIdempotentRow.holds Tryd.pinned (OpenSpec.ofChange fnSelectIdempotentWrong)

end Rows
end Go.Proofs.Qxb6601214aDoor
