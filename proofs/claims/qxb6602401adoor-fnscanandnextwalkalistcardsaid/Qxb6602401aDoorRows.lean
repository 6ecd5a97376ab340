/-
  NARROWER THAN 'FOR EVERY INPUT', by the rows' own cells (each row's printed sentence says how): FnScanMatchesTwoPassModel: laid · FnScanIgnoresBytesPastItsEnd: laid · FnScanOfItsOwnSpanIsUnchanged: laid · FnScanAndNextWalkAList: laid.
  DERIVED. THE GIVEN ROWS OF THIS SEAT. 4 by the template 'for every input the law returns true; each argument reads behind the call as it read before'; 0 by the template 'total and deterministic' (their statements: Qxb6602401aDoorTotals.lean).
  GIVEN WITH THE SEED: the statements are not yours to turn. If you find one false, say at which input.
  Laid BY PROGRAM, IN A SANDBOX (cutbox-rows.mjs): the forced cells as the released guide's own fill.sh prints them over the translation a31450d31093f208… (all of the seat's roots in one cut). By AI agents, Wed Nov 11 2026. No macro, syntax, notation, axiom, sorry.
-/
import Derived.Test.Qxb6602401aDoorChecked
import GoSem.PinnedTables
import GoSem.Claim
import GoSem.ClaimJoined
import GoSem.ClaimMapViews
import Derived.JoinedTies
import Derived.KernelRfl
namespace Go.Proofs.Qxb6602401aDoor
/- THE CELL 'sum', in the pinned program and in every row, IS THE sha256 OF THE DUMP (.gsa) THAT Qxb6602401aDoorProg.lean LOADS. Nothing in Lean hashes anything: it is a label: what it is worth is what the hold of that sum in a sandbox is worth. -/
noncomputable def Tryd.pinned : Pinned := { name := "qxb6602401adoor", sum := "a31450d31093f2084bd299f894a5809adea268d77a14354e25b2925842c78fe8", checked := Tryd.checked }
namespace Rows
def none {H : Type} : Left H := { results := [], args := [] }

/- WHAT THE LISTED PACKAGE-LEVEL VARIABLES READ AS WHEN THE CALL BEGINS. Each datum BY PROGRAM (the guide's laid-datum.mjs) off the statement by which the dump's own 'gosem.cut.vars' lays the variable. In a bare row this is a premise. The card (Qxb6602401aDoorCards.lean) ties it to the program's text. -/
def laid_unicode_utf8_acceptRanges {H : Type} : DataW H := .agg [.agg [.lit (.int .u8 128), .lit (.int .u8 191)], .agg [.lit (.int .u8 160), .lit (.int .u8 191)], .agg [.lit (.int .u8 128), .lit (.int .u8 159)], .agg [.lit (.int .u8 144), .lit (.int .u8 191)], .agg [.lit (.int .u8 128), .lit (.int .u8 143)], .agg [.lit (.int .u8 0), .lit (.int .u8 0)], .agg [.lit (.int .u8 0), .lit (.int .u8 0)], .agg [.lit (.int .u8 0), .lit (.int .u8 0)], .agg [.lit (.int .u8 0), .lit (.int .u8 0)], .agg [.lit (.int .u8 0), .lit (.int .u8 0)], .agg [.lit (.int .u8 0), .lit (.int .u8 0)], .agg [.lit (.int .u8 0), .lit (.int .u8 0)], .agg [.lit (.int .u8 0), .lit (.int .u8 0)], .agg [.lit (.int .u8 0), .lit (.int .u8 0)], .agg [.lit (.int .u8 0), .lit (.int .u8 0)], .agg [.lit (.int .u8 0), .lit (.int .u8 0)]]
/-- One of Go's own tables, pinned by name: the form's constant. -/
def laid_unicode_utf8_first : DataW Unit := Go.Pinned.utf8First

/-- 'zzlaws_jsonscan_b1.FnScanMatchesTwoPassModel': WHATEVER THE INPUT: true; the input reads as it did. -/
def fnScanMatchesTwoPassModelSpec : ChangeSpec := { name := "fnScanMatchesTwoPassModel", fn := fun _ => fun
  | [d] => { results := [.lit (.bool true)], args := [d] }
  | _ => none }
def fnScanMatchesTwoPassModelRow : OpenClaim := { program := "qxb6602401adoor", sum := "a31450d31093f2084bd299f894a5809adea268d77a14354e25b2925842c78fe8", func := "example.com/methodical-runner/methodical-runner/zzlaws_jsonscan_b1.FnScanMatchesTwoPassModel", spec := "fnScanMatchesTwoPassModel", inPlace := ["internal/bytealg.IndexByte", "internal/bytealg.IndexByteString", "internal/bytealg.Index", "internal/bytealg.IndexString"], named := ["internal/bytealg.MaxLen", "unicode/utf8.first", "unicode/utf8.acceptRanges"], apart := false, laid := [("unicode/utf8.acceptRanges", laid_unicode_utf8_acceptRanges), ("unicode/utf8.first", laid_unicode_utf8_first)] }
def FnScanMatchesTwoPassModelSaid : Prop := fnScanMatchesTwoPassModelRow.holds Tryd.pinned (OpenSpec.ofChange fnScanMatchesTwoPassModelSpec)

/-- ITS FALSE NEIGHBOUR: 'it returns false'. Refute it at one input. -/
def fnScanMatchesTwoPassModelWrong : ChangeSpec := { name := "fnScanMatchesTwoPassModel", fn := fun _ => fun
  | [d] => { results := [.lit (.bool false)], args := [d] }
  | _ => none }
def FnScanMatchesTwoPassModelWrongFalsely : Prop := fnScanMatchesTwoPassModelRow.holds Tryd.pinned (OpenSpec.ofChange fnScanMatchesTwoPassModelWrong)

/-- 'zzlaws_jsonscan_b1.FnScanIgnoresBytesPastItsEnd': WHATEVER THE INPUT: true; the input reads as it did. -/
def fnScanIgnoresBytesPastItsEndSpec : ChangeSpec := { name := "fnScanIgnoresBytesPastItsEnd", fn := fun _ => fun
  | [d1, d2] => { results := [.lit (.bool true)], args := [d1, d2] }
  | _ => none }
def fnScanIgnoresBytesPastItsEndRow : OpenClaim := { program := "qxb6602401adoor", sum := "a31450d31093f2084bd299f894a5809adea268d77a14354e25b2925842c78fe8", func := "example.com/methodical-runner/methodical-runner/zzlaws_jsonscan_b1.FnScanIgnoresBytesPastItsEnd", spec := "fnScanIgnoresBytesPastItsEnd", inPlace := ["internal/bytealg.IndexByte", "internal/bytealg.IndexByteString", "internal/bytealg.Index", "internal/bytealg.IndexString"], named := ["internal/bytealg.MaxLen", "unicode/utf8.first", "unicode/utf8.acceptRanges"], apart := false, laid := [("unicode/utf8.acceptRanges", laid_unicode_utf8_acceptRanges), ("unicode/utf8.first", laid_unicode_utf8_first)] }
def FnScanIgnoresBytesPastItsEndSaid : Prop := fnScanIgnoresBytesPastItsEndRow.holds Tryd.pinned (OpenSpec.ofChange fnScanIgnoresBytesPastItsEndSpec)

/-- ITS FALSE NEIGHBOUR: 'it returns false'. Refute it at one input. -/
def fnScanIgnoresBytesPastItsEndWrong : ChangeSpec := { name := "fnScanIgnoresBytesPastItsEnd", fn := fun _ => fun
  | [d1, d2] => { results := [.lit (.bool false)], args := [d1, d2] }
  | _ => none }
def FnScanIgnoresBytesPastItsEndWrongFalsely : Prop := fnScanIgnoresBytesPastItsEndRow.holds Tryd.pinned (OpenSpec.ofChange fnScanIgnoresBytesPastItsEndWrong)

/-- 'zzlaws_jsonscan_b1.FnScanOfItsOwnSpanIsUnchanged': WHATEVER THE INPUT: true; the input reads as it did. -/
def fnScanOfItsOwnSpanIsUnchangedSpec : ChangeSpec := { name := "fnScanOfItsOwnSpanIsUnchanged", fn := fun _ => fun
  | [d] => { results := [.lit (.bool true)], args := [d] }
  | _ => none }
def fnScanOfItsOwnSpanIsUnchangedRow : OpenClaim := { program := "qxb6602401adoor", sum := "a31450d31093f2084bd299f894a5809adea268d77a14354e25b2925842c78fe8", func := "example.com/methodical-runner/methodical-runner/zzlaws_jsonscan_b1.FnScanOfItsOwnSpanIsUnchanged", spec := "fnScanOfItsOwnSpanIsUnchanged", inPlace := ["internal/bytealg.IndexByte", "internal/bytealg.IndexByteString", "internal/bytealg.Index", "internal/bytealg.IndexString"], named := ["internal/bytealg.MaxLen", "unicode/utf8.first", "unicode/utf8.acceptRanges"], apart := false, laid := [("unicode/utf8.acceptRanges", laid_unicode_utf8_acceptRanges), ("unicode/utf8.first", laid_unicode_utf8_first)] }
def FnScanOfItsOwnSpanIsUnchangedSaid : Prop := fnScanOfItsOwnSpanIsUnchangedRow.holds Tryd.pinned (OpenSpec.ofChange fnScanOfItsOwnSpanIsUnchangedSpec)

/-- ITS FALSE NEIGHBOUR: 'it returns false'. Refute it at one input. -/
def fnScanOfItsOwnSpanIsUnchangedWrong : ChangeSpec := { name := "fnScanOfItsOwnSpanIsUnchanged", fn := fun _ => fun
  | [d] => { results := [.lit (.bool false)], args := [d] }
  | _ => none }
def FnScanOfItsOwnSpanIsUnchangedWrongFalsely : Prop := fnScanOfItsOwnSpanIsUnchangedRow.holds Tryd.pinned (OpenSpec.ofChange fnScanOfItsOwnSpanIsUnchangedWrong)

/-- 'zzlaws_jsonscan_b1.FnScanAndNextWalkAList': WHATEVER THE INPUT: true; the input reads as it did. -/
def fnScanAndNextWalkAListSpec : ChangeSpec := { name := "fnScanAndNextWalkAList", fn := fun _ => fun
  | [d1, d2] => { results := [.lit (.bool true)], args := [d1, d2] }
  | _ => none }
def fnScanAndNextWalkAListRow : OpenClaim := { program := "qxb6602401adoor", sum := "a31450d31093f2084bd299f894a5809adea268d77a14354e25b2925842c78fe8", func := "example.com/methodical-runner/methodical-runner/zzlaws_jsonscan_b1.FnScanAndNextWalkAList", spec := "fnScanAndNextWalkAList", inPlace := ["internal/bytealg.IndexByte", "internal/bytealg.IndexByteString", "internal/bytealg.Index", "internal/bytealg.IndexString"], named := ["internal/bytealg.MaxLen", "unicode/utf8.first", "unicode/utf8.acceptRanges"], apart := false, laid := [("unicode/utf8.acceptRanges", laid_unicode_utf8_acceptRanges), ("unicode/utf8.first", laid_unicode_utf8_first)] }
def FnScanAndNextWalkAListSaid : Prop := fnScanAndNextWalkAListRow.holds Tryd.pinned (OpenSpec.ofChange fnScanAndNextWalkAListSpec)

/-- ITS FALSE NEIGHBOUR: 'it returns false'. Refute it at one input. -/
def fnScanAndNextWalkAListWrong : ChangeSpec := { name := "fnScanAndNextWalkAList", fn := fun _ => fun
  | [d1, d2] => { results := [.lit (.bool false)], args := [d1, d2] }
  | _ => none }
def FnScanAndNextWalkAListWrongFalsely : Prop := fnScanAndNextWalkAListRow.holds Tryd.pinned (OpenSpec.ofChange fnScanAndNextWalkAListWrong)

end Rows
end Go.Proofs.Qxb6602401aDoor
