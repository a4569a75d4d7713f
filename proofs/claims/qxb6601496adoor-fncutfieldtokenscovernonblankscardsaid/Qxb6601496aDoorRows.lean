/-
  NARROWER THAN 'FOR EVERY INPUT', by the rows' own cells (each row's printed sentence says how): FnCutFieldMatchesScan: laid · FnCutFieldRecutAndPadding: laid · FnCutFieldTokensCoverNonBlanks: laid.
  DERIVED. THE GIVEN ROWS OF THIS SEAT. 3 by the template 'for every input the law returns true; each argument reads behind the call as it read before'; 0 by the template 'total and deterministic' (their statements: Qxb6601496aDoorTotals.lean).
  GIVEN WITH THE SEED: the statements are not yours to turn. If you find one false, say at which input.
  Laid BY PROGRAM, IN A SANDBOX (cutbox-rows.mjs): the forced cells as the released guide's own fill.sh prints them over the translation 9b71f1a343629c7c… (all of the seat's roots in one cut). By AI agents, Wed Nov 11 2026. No macro, syntax, notation, axiom, sorry.
-/
import Derived.Test.Qxb6601496aDoorChecked
import GoSem.PinnedTables
import GoSem.Claim
import GoSem.ClaimJoined
import GoSem.ClaimMapViews
import Derived.JoinedTies
import Derived.KernelRfl
namespace Go.Proofs.Qxb6601496aDoor
/- THE CELL 'sum', in the pinned program and in every row, IS THE sha256 OF THE DUMP (.gsa) THAT Qxb6601496aDoorProg.lean LOADS. Nothing in Lean hashes anything: it is a label: what it is worth is what the hold of that sum in a sandbox is worth. -/
noncomputable def Tryd.pinned : Pinned := { name := "qxb6601496adoor", sum := "9b71f1a343629c7c20a115095d159b53c44f7c7f5c96a8dc31d31bb5a7936eae", checked := Tryd.checked }
namespace Rows
def none {H : Type} : Left H := { results := [], args := [] }

/- WHAT THE LISTED PACKAGE-LEVEL VARIABLES READ AS WHEN THE CALL BEGINS. Each datum BY PROGRAM (the guide's laid-datum.mjs) off the statement by which the dump's own 'gosem.cut.vars' lays the variable. In a bare row this is a premise. The card (Qxb6601496aDoorCards.lean) ties it to the program's text. -/
def laid_unicode_utf8_acceptRanges {H : Type} : DataW H := .agg [.agg [.lit (.int .u8 128), .lit (.int .u8 191)], .agg [.lit (.int .u8 160), .lit (.int .u8 191)], .agg [.lit (.int .u8 128), .lit (.int .u8 159)], .agg [.lit (.int .u8 144), .lit (.int .u8 191)], .agg [.lit (.int .u8 128), .lit (.int .u8 143)], .agg [.lit (.int .u8 0), .lit (.int .u8 0)], .agg [.lit (.int .u8 0), .lit (.int .u8 0)], .agg [.lit (.int .u8 0), .lit (.int .u8 0)], .agg [.lit (.int .u8 0), .lit (.int .u8 0)], .agg [.lit (.int .u8 0), .lit (.int .u8 0)], .agg [.lit (.int .u8 0), .lit (.int .u8 0)], .agg [.lit (.int .u8 0), .lit (.int .u8 0)], .agg [.lit (.int .u8 0), .lit (.int .u8 0)], .agg [.lit (.int .u8 0), .lit (.int .u8 0)], .agg [.lit (.int .u8 0), .lit (.int .u8 0)], .agg [.lit (.int .u8 0), .lit (.int .u8 0)]]
/-- One of Go's own tables, pinned by name: the form's constant. -/
def laid_unicode_utf8_first : DataW Unit := Go.Pinned.utf8First

/-- 'zzlaws_wire_b1.FnCutFieldMatchesScan': WHATEVER THE INPUT: true; the input reads as it did. -/
def fnCutFieldMatchesScanSpec : ChangeSpec := { name := "fnCutFieldMatchesScan", fn := fun _ => fun
  | [d] => { results := [.lit (.bool true)], args := [d] }
  | _ => none }
def fnCutFieldMatchesScanRow : OpenClaim := { program := "qxb6601496adoor", sum := "9b71f1a343629c7c20a115095d159b53c44f7c7f5c96a8dc31d31bb5a7936eae", func := "example.com/keywarrant/keywarrant/zzlaws_wire_b1.FnCutFieldMatchesScan", spec := "fnCutFieldMatchesScan", inPlace := ["internal/bytealg.IndexByte"], named := ["unicode/utf8.first", "unicode/utf8.acceptRanges"], apart := false, laid := [("unicode/utf8.acceptRanges", laid_unicode_utf8_acceptRanges), ("unicode/utf8.first", laid_unicode_utf8_first)] }
def FnCutFieldMatchesScanSaid : Prop := fnCutFieldMatchesScanRow.holds Tryd.pinned (OpenSpec.ofChange fnCutFieldMatchesScanSpec)

/-- ITS FALSE NEIGHBOUR: 'it returns false'. Refute it at one input. -/
def fnCutFieldMatchesScanWrong : ChangeSpec := { name := "fnCutFieldMatchesScan", fn := fun _ => fun
  | [d] => { results := [.lit (.bool false)], args := [d] }
  | _ => none }
def FnCutFieldMatchesScanWrongFalsely : Prop := fnCutFieldMatchesScanRow.holds Tryd.pinned (OpenSpec.ofChange fnCutFieldMatchesScanWrong)

/-- 'zzlaws_wire_b1.FnCutFieldRecutAndPadding': WHATEVER THE INPUT: true; the input reads as it did. -/
def fnCutFieldRecutAndPaddingSpec : ChangeSpec := { name := "fnCutFieldRecutAndPadding", fn := fun _ => fun
  | [d] => { results := [.lit (.bool true)], args := [d] }
  | _ => none }
def fnCutFieldRecutAndPaddingRow : OpenClaim := { program := "qxb6601496adoor", sum := "9b71f1a343629c7c20a115095d159b53c44f7c7f5c96a8dc31d31bb5a7936eae", func := "example.com/keywarrant/keywarrant/zzlaws_wire_b1.FnCutFieldRecutAndPadding", spec := "fnCutFieldRecutAndPadding", inPlace := ["internal/bytealg.IndexByte"], named := ["unicode/utf8.first", "unicode/utf8.acceptRanges"], apart := false, laid := [("unicode/utf8.acceptRanges", laid_unicode_utf8_acceptRanges), ("unicode/utf8.first", laid_unicode_utf8_first)] }
def FnCutFieldRecutAndPaddingSaid : Prop := fnCutFieldRecutAndPaddingRow.holds Tryd.pinned (OpenSpec.ofChange fnCutFieldRecutAndPaddingSpec)

/-- ITS FALSE NEIGHBOUR: 'it returns false'. Refute it at one input. -/
def fnCutFieldRecutAndPaddingWrong : ChangeSpec := { name := "fnCutFieldRecutAndPadding", fn := fun _ => fun
  | [d] => { results := [.lit (.bool false)], args := [d] }
  | _ => none }
def FnCutFieldRecutAndPaddingWrongFalsely : Prop := fnCutFieldRecutAndPaddingRow.holds Tryd.pinned (OpenSpec.ofChange fnCutFieldRecutAndPaddingWrong)

/-- 'zzlaws_wire_b1.FnCutFieldTokensCoverNonBlanks': WHATEVER THE INPUT: true; the input reads as it did. -/
def fnCutFieldTokensCoverNonBlanksSpec : ChangeSpec := { name := "fnCutFieldTokensCoverNonBlanks", fn := fun _ => fun
  | [d] => { results := [.lit (.bool true)], args := [d] }
  | _ => none }
def fnCutFieldTokensCoverNonBlanksRow : OpenClaim := { program := "qxb6601496adoor", sum := "9b71f1a343629c7c20a115095d159b53c44f7c7f5c96a8dc31d31bb5a7936eae", func := "example.com/keywarrant/keywarrant/zzlaws_wire_b1.FnCutFieldTokensCoverNonBlanks", spec := "fnCutFieldTokensCoverNonBlanks", inPlace := ["internal/bytealg.IndexByte"], named := ["unicode/utf8.first", "unicode/utf8.acceptRanges"], apart := false, laid := [("unicode/utf8.acceptRanges", laid_unicode_utf8_acceptRanges), ("unicode/utf8.first", laid_unicode_utf8_first)] }
def FnCutFieldTokensCoverNonBlanksSaid : Prop := fnCutFieldTokensCoverNonBlanksRow.holds Tryd.pinned (OpenSpec.ofChange fnCutFieldTokensCoverNonBlanksSpec)

/-- ITS FALSE NEIGHBOUR: 'it returns false'. Refute it at one input. -/
def fnCutFieldTokensCoverNonBlanksWrong : ChangeSpec := { name := "fnCutFieldTokensCoverNonBlanks", fn := fun _ => fun
  | [d] => { results := [.lit (.bool false)], args := [d] }
  | _ => none }
def FnCutFieldTokensCoverNonBlanksWrongFalsely : Prop := fnCutFieldTokensCoverNonBlanksRow.holds Tryd.pinned (OpenSpec.ofChange fnCutFieldTokensCoverNonBlanksWrong)

end Rows
end Go.Proofs.Qxb6601496aDoor
