/-
  NARROWER THAN 'FOR EVERY INPUT', by the rows' own cells (each row's printed sentence says how): FnScaledDecimalMatchesPowerModel: laid · FnScaledDecimalExponentsAdd: laid · FnLeadingScalarReadsBuiltObject: laid.
  DERIVED. THE GIVEN ROWS OF THIS SEAT. 3 by the template 'for every input the law returns true; each argument reads behind the call as it read before'; 0 by the template 'total and deterministic' (their statements: Qxb6601590aDoorTotals.lean).
  GIVEN WITH THE SEED: the statements are not yours to turn. If you find one false, say at which input.
  Laid BY PROGRAM, IN A SANDBOX (cutbox-rows.mjs): the forced cells as the released guide's own fill.sh prints them over the translation 69144eb67054c448… (all of the seat's roots in one cut). By AI agents, Wed Nov 11 2026. No macro, syntax, notation, axiom, sorry.
-/
import Derived.Test.Qxb6601590aDoorChecked
import GoSem.PinnedTables
import GoSem.Claim
import GoSem.ClaimJoined
import GoSem.ClaimMapViews
import Derived.JoinedTies
import Derived.KernelRfl
namespace Go.Proofs.Qxb6601590aDoor
/- THE CELL 'sum', in the pinned program and in every row, IS THE sha256 OF THE DUMP (.gsa) THAT Qxb6601590aDoorProg.lean LOADS. Nothing in Lean hashes anything: it is a label: what it is worth is what the hold of that sum in a sandbox is worth. -/
noncomputable def Tryd.pinned : Pinned := { name := "qxb6601590adoor", sum := "69144eb67054c44838bf62f11505caca1d43561efe619689808924e7fc703c9f", checked := Tryd.checked }
namespace Rows
def none {H : Type} : Left H := { results := [], args := [] }

/- WHAT THE LISTED PACKAGE-LEVEL VARIABLES READ AS WHEN THE CALL BEGINS. Each datum BY PROGRAM (the guide's laid-datum.mjs) off the statement by which the dump's own 'gosem.cut.vars' lays the variable. In a bare row this is a premise. The card (Qxb6601590aDoorCards.lean) ties it to the program's text. -/
def laid_unicode_utf8_acceptRanges {H : Type} : DataW H := .agg [.agg [.lit (.int .u8 128), .lit (.int .u8 191)], .agg [.lit (.int .u8 160), .lit (.int .u8 191)], .agg [.lit (.int .u8 128), .lit (.int .u8 159)], .agg [.lit (.int .u8 144), .lit (.int .u8 191)], .agg [.lit (.int .u8 128), .lit (.int .u8 143)], .agg [.lit (.int .u8 0), .lit (.int .u8 0)], .agg [.lit (.int .u8 0), .lit (.int .u8 0)], .agg [.lit (.int .u8 0), .lit (.int .u8 0)], .agg [.lit (.int .u8 0), .lit (.int .u8 0)], .agg [.lit (.int .u8 0), .lit (.int .u8 0)], .agg [.lit (.int .u8 0), .lit (.int .u8 0)], .agg [.lit (.int .u8 0), .lit (.int .u8 0)], .agg [.lit (.int .u8 0), .lit (.int .u8 0)], .agg [.lit (.int .u8 0), .lit (.int .u8 0)], .agg [.lit (.int .u8 0), .lit (.int .u8 0)], .agg [.lit (.int .u8 0), .lit (.int .u8 0)]]
/-- One of Go's own tables, pinned by name: the form's constant. -/
def laid_unicode_utf8_first : DataW Unit := Go.Pinned.utf8First

/-- 'zzlaws_root_b1.FnScaledDecimalMatchesPowerModel': WHATEVER THE INPUT: true; the input reads as it did. -/
def fnScaledDecimalMatchesPowerModelSpec : ChangeSpec := { name := "fnScaledDecimalMatchesPowerModel", fn := fun _ => fun
  | [d1, d2] => { results := [.lit (.bool true)], args := [d1, d2] }
  | _ => none }
def fnScaledDecimalMatchesPowerModelRow : OpenClaim := { program := "qxb6601590adoor", sum := "69144eb67054c44838bf62f11505caca1d43561efe619689808924e7fc703c9f", func := "example.com/hallmark/hallmark/zzlaws_root_b1.FnScaledDecimalMatchesPowerModel", spec := "fnScaledDecimalMatchesPowerModel", inPlace := ["internal/bytealg.IndexByteString", "internal/bytealg.IndexString", "internal/abi.NoEscape", "internal/bytealg.MakeNoZero"], named := ["internal/bytealg.MaxLen", "unicode/utf8.first", "unicode/utf8.acceptRanges"], apart := false, laid := [("unicode/utf8.acceptRanges", laid_unicode_utf8_acceptRanges), ("unicode/utf8.first", laid_unicode_utf8_first)] }
def FnScaledDecimalMatchesPowerModelSaid : Prop := fnScaledDecimalMatchesPowerModelRow.holds Tryd.pinned (OpenSpec.ofChange fnScaledDecimalMatchesPowerModelSpec)

/-- ITS FALSE NEIGHBOUR: 'it returns false'. Refute it at one input. -/
def fnScaledDecimalMatchesPowerModelWrong : ChangeSpec := { name := "fnScaledDecimalMatchesPowerModel", fn := fun _ => fun
  | [d1, d2] => { results := [.lit (.bool false)], args := [d1, d2] }
  | _ => none }
def FnScaledDecimalMatchesPowerModelWrongFalsely : Prop := fnScaledDecimalMatchesPowerModelRow.holds Tryd.pinned (OpenSpec.ofChange fnScaledDecimalMatchesPowerModelWrong)

/-- 'zzlaws_root_b1.FnScaledDecimalExponentsAdd': WHATEVER THE INPUT: true; the input reads as it did. -/
def fnScaledDecimalExponentsAddSpec : ChangeSpec := { name := "fnScaledDecimalExponentsAdd", fn := fun _ => fun
  | [d1, d2, d3] => { results := [.lit (.bool true)], args := [d1, d2, d3] }
  | _ => none }
def fnScaledDecimalExponentsAddRow : OpenClaim := { program := "qxb6601590adoor", sum := "69144eb67054c44838bf62f11505caca1d43561efe619689808924e7fc703c9f", func := "example.com/hallmark/hallmark/zzlaws_root_b1.FnScaledDecimalExponentsAdd", spec := "fnScaledDecimalExponentsAdd", inPlace := ["internal/bytealg.IndexByteString", "internal/bytealg.IndexString", "internal/abi.NoEscape", "internal/bytealg.MakeNoZero"], named := ["internal/bytealg.MaxLen", "unicode/utf8.first", "unicode/utf8.acceptRanges"], apart := false, laid := [("unicode/utf8.acceptRanges", laid_unicode_utf8_acceptRanges), ("unicode/utf8.first", laid_unicode_utf8_first)] }
def FnScaledDecimalExponentsAddSaid : Prop := fnScaledDecimalExponentsAddRow.holds Tryd.pinned (OpenSpec.ofChange fnScaledDecimalExponentsAddSpec)

/-- ITS FALSE NEIGHBOUR: 'it returns false'. Refute it at one input. -/
def fnScaledDecimalExponentsAddWrong : ChangeSpec := { name := "fnScaledDecimalExponentsAdd", fn := fun _ => fun
  | [d1, d2, d3] => { results := [.lit (.bool false)], args := [d1, d2, d3] }
  | _ => none }
def FnScaledDecimalExponentsAddWrongFalsely : Prop := fnScaledDecimalExponentsAddRow.holds Tryd.pinned (OpenSpec.ofChange fnScaledDecimalExponentsAddWrong)

/-- 'zzlaws_root_b1.FnLeadingScalarReadsBuiltObject': WHATEVER THE INPUT: true; the input reads as it did. -/
def fnLeadingScalarReadsBuiltObjectSpec : ChangeSpec := { name := "fnLeadingScalarReadsBuiltObject", fn := fun _ => fun
  | [d1, d2, d3, d4, d5, d6, d7] => { results := [.lit (.bool true)], args := [d1, d2, d3, d4, d5, d6, d7] }
  | _ => none }
def fnLeadingScalarReadsBuiltObjectRow : OpenClaim := { program := "qxb6601590adoor", sum := "69144eb67054c44838bf62f11505caca1d43561efe619689808924e7fc703c9f", func := "example.com/hallmark/hallmark/zzlaws_root_b1.FnLeadingScalarReadsBuiltObject", spec := "fnLeadingScalarReadsBuiltObject", inPlace := ["internal/bytealg.IndexByteString", "internal/bytealg.IndexString", "internal/bytealg.IndexByte", "internal/bytealg.Index"], named := ["unicode/utf8.first", "unicode/utf8.acceptRanges", "internal/bytealg.MaxLen"], apart := false, laid := [("unicode/utf8.acceptRanges", laid_unicode_utf8_acceptRanges), ("unicode/utf8.first", laid_unicode_utf8_first)] }
def FnLeadingScalarReadsBuiltObjectSaid : Prop := fnLeadingScalarReadsBuiltObjectRow.holds Tryd.pinned (OpenSpec.ofChange fnLeadingScalarReadsBuiltObjectSpec)

/-- ITS FALSE NEIGHBOUR: 'it returns false'. Refute it at one input. -/
def fnLeadingScalarReadsBuiltObjectWrong : ChangeSpec := { name := "fnLeadingScalarReadsBuiltObject", fn := fun _ => fun
  | [d1, d2, d3, d4, d5, d6, d7] => { results := [.lit (.bool false)], args := [d1, d2, d3, d4, d5, d6, d7] }
  | _ => none }
def FnLeadingScalarReadsBuiltObjectWrongFalsely : Prop := fnLeadingScalarReadsBuiltObjectRow.holds Tryd.pinned (OpenSpec.ofChange fnLeadingScalarReadsBuiltObjectWrong)

end Rows
end Go.Proofs.Qxb6601590aDoor
