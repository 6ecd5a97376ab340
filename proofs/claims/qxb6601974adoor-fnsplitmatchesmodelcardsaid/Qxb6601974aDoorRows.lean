/-
  NARROWER THAN 'FOR EVERY INPUT', by the rows' own cells (each row's printed sentence says how): FnSplitMatchesModel: laid · FnSplitJoinsBack: laid · FnSplitHiddenMonotone: laid.
  DERIVED. THE GIVEN ROWS OF THIS SEAT. 3 by the template 'for every input the law returns true; each argument reads behind the call as it read before'; 0 by the template 'total and deterministic' (their statements: Qxb6601974aDoorTotals.lean).
  GIVEN WITH THE SEED: the statements are not yours to turn. If you find one false, say at which input.
  Laid BY PROGRAM, IN A SANDBOX (cutbox-rows.mjs): the forced cells as the released guide's own fill.sh prints them over the translation c3a623f8d598c757… (all of the seat's roots in one cut). By AI agents, Wed Nov 11 2026. No macro, syntax, notation, axiom, sorry.
-/
import Derived.Test.Qxb6601974aDoorChecked
import GoSem.PinnedTables
import GoSem.Claim
import GoSem.ClaimJoined
import GoSem.ClaimMapViews
import Derived.JoinedTies
import Derived.KernelRfl
namespace Go.Proofs.Qxb6601974aDoor
/- THE CELL 'sum', in the pinned program and in every row, IS THE sha256 OF THE DUMP (.gsa) THAT Qxb6601974aDoorProg.lean LOADS. Nothing in Lean hashes anything: it is a label: what it is worth is what the hold of that sum in a sandbox is worth. -/
noncomputable def Tryd.pinned : Pinned := { name := "qxb6601974adoor", sum := "c3a623f8d598c757b8c4e737f42728e6d664664c45b66f72333fdcb68cff8ed1", checked := Tryd.checked }
namespace Rows
def none {H : Type} : Left H := { results := [], args := [] }

/- WHAT THE LISTED PACKAGE-LEVEL VARIABLES READ AS WHEN THE CALL BEGINS. Each datum BY PROGRAM (the guide's laid-datum.mjs) off the statement by which the dump's own 'gosem.cut.vars' lays the variable. In a bare row this is a premise. The card (Qxb6601974aDoorCards.lean) ties it to the program's text. -/
def laid_unicode_utf8_acceptRanges {H : Type} : DataW H := .agg [.agg [.lit (.int .u8 128), .lit (.int .u8 191)], .agg [.lit (.int .u8 160), .lit (.int .u8 191)], .agg [.lit (.int .u8 128), .lit (.int .u8 159)], .agg [.lit (.int .u8 144), .lit (.int .u8 191)], .agg [.lit (.int .u8 128), .lit (.int .u8 143)], .agg [.lit (.int .u8 0), .lit (.int .u8 0)], .agg [.lit (.int .u8 0), .lit (.int .u8 0)], .agg [.lit (.int .u8 0), .lit (.int .u8 0)], .agg [.lit (.int .u8 0), .lit (.int .u8 0)], .agg [.lit (.int .u8 0), .lit (.int .u8 0)], .agg [.lit (.int .u8 0), .lit (.int .u8 0)], .agg [.lit (.int .u8 0), .lit (.int .u8 0)], .agg [.lit (.int .u8 0), .lit (.int .u8 0)], .agg [.lit (.int .u8 0), .lit (.int .u8 0)], .agg [.lit (.int .u8 0), .lit (.int .u8 0)], .agg [.lit (.int .u8 0), .lit (.int .u8 0)]]
/-- One of Go's own tables, pinned by name: the form's constant. -/
def laid_unicode_utf8_first : DataW Unit := Go.Pinned.utf8First

/-- 'zzlaws_internal_redact_b1.FnSplitMatchesModel': WHATEVER THE INPUT: true; the input reads as it did. -/
def fnSplitMatchesModelSpec : ChangeSpec := { name := "fnSplitMatchesModel", fn := fun _ => fun
  | [d1, d2, d3] => { results := [.lit (.bool true)], args := [d1, d2, d3] }
  | _ => none }
def fnSplitMatchesModelRow : OpenClaim := { program := "qxb6601974adoor", sum := "c3a623f8d598c757b8c4e737f42728e6d664664c45b66f72333fdcb68cff8ed1", func := "example.com/stemhold/stemhold/zzlaws_internal_redact_b1.FnSplitMatchesModel", spec := "fnSplitMatchesModel", inPlace := ["internal/bytealg.IndexByteString", "internal/bytealg.IndexString", "internal/bytealg.CountString"], named := ["internal/bytealg.MaxLen", "unicode/utf8.first", "unicode/utf8.acceptRanges"], apart := false, laid := [("unicode/utf8.acceptRanges", laid_unicode_utf8_acceptRanges), ("unicode/utf8.first", laid_unicode_utf8_first)] }
def FnSplitMatchesModelSaid : Prop := fnSplitMatchesModelRow.holds Tryd.pinned (OpenSpec.ofChange fnSplitMatchesModelSpec)

/-- ITS FALSE NEIGHBOUR: 'it returns false'. Refute it at one input. -/
def fnSplitMatchesModelWrong : ChangeSpec := { name := "fnSplitMatchesModel", fn := fun _ => fun
  | [d1, d2, d3] => { results := [.lit (.bool false)], args := [d1, d2, d3] }
  | _ => none }
def FnSplitMatchesModelWrongFalsely : Prop := fnSplitMatchesModelRow.holds Tryd.pinned (OpenSpec.ofChange fnSplitMatchesModelWrong)

/-- 'zzlaws_internal_redact_b1.FnSplitJoinsBack': WHATEVER THE INPUT: true; the input reads as it did. -/
def fnSplitJoinsBackSpec : ChangeSpec := { name := "fnSplitJoinsBack", fn := fun _ => fun
  | [d1, d2, d3] => { results := [.lit (.bool true)], args := [d1, d2, d3] }
  | _ => none }
def fnSplitJoinsBackRow : OpenClaim := { program := "qxb6601974adoor", sum := "c3a623f8d598c757b8c4e737f42728e6d664664c45b66f72333fdcb68cff8ed1", func := "example.com/stemhold/stemhold/zzlaws_internal_redact_b1.FnSplitJoinsBack", spec := "fnSplitJoinsBack", inPlace := ["internal/bytealg.IndexByteString", "internal/bytealg.IndexString", "internal/bytealg.CountString"], named := ["internal/bytealg.MaxLen", "unicode/utf8.first", "unicode/utf8.acceptRanges"], apart := false, laid := [("unicode/utf8.acceptRanges", laid_unicode_utf8_acceptRanges), ("unicode/utf8.first", laid_unicode_utf8_first)] }
def FnSplitJoinsBackSaid : Prop := fnSplitJoinsBackRow.holds Tryd.pinned (OpenSpec.ofChange fnSplitJoinsBackSpec)

/-- ITS FALSE NEIGHBOUR: 'it returns false'. Refute it at one input. -/
def fnSplitJoinsBackWrong : ChangeSpec := { name := "fnSplitJoinsBack", fn := fun _ => fun
  | [d1, d2, d3] => { results := [.lit (.bool false)], args := [d1, d2, d3] }
  | _ => none }
def FnSplitJoinsBackWrongFalsely : Prop := fnSplitJoinsBackRow.holds Tryd.pinned (OpenSpec.ofChange fnSplitJoinsBackWrong)

/-- 'zzlaws_internal_redact_b1.FnSplitHiddenMonotone': WHATEVER THE INPUT: true; the input reads as it did. -/
def fnSplitHiddenMonotoneSpec : ChangeSpec := { name := "fnSplitHiddenMonotone", fn := fun _ => fun
  | [d1, d2, d3, d4] => { results := [.lit (.bool true)], args := [d1, d2, d3, d4] }
  | _ => none }
def fnSplitHiddenMonotoneRow : OpenClaim := { program := "qxb6601974adoor", sum := "c3a623f8d598c757b8c4e737f42728e6d664664c45b66f72333fdcb68cff8ed1", func := "example.com/stemhold/stemhold/zzlaws_internal_redact_b1.FnSplitHiddenMonotone", spec := "fnSplitHiddenMonotone", inPlace := ["internal/bytealg.IndexByteString", "internal/bytealg.IndexString", "internal/bytealg.CountString"], named := ["internal/bytealg.MaxLen", "unicode/utf8.first", "unicode/utf8.acceptRanges"], apart := false, laid := [("unicode/utf8.acceptRanges", laid_unicode_utf8_acceptRanges), ("unicode/utf8.first", laid_unicode_utf8_first)] }
def FnSplitHiddenMonotoneSaid : Prop := fnSplitHiddenMonotoneRow.holds Tryd.pinned (OpenSpec.ofChange fnSplitHiddenMonotoneSpec)

/-- ITS FALSE NEIGHBOUR: 'it returns false'. Refute it at one input. -/
def fnSplitHiddenMonotoneWrong : ChangeSpec := { name := "fnSplitHiddenMonotone", fn := fun _ => fun
  | [d1, d2, d3, d4] => { results := [.lit (.bool false)], args := [d1, d2, d3, d4] }
  | _ => none }
def FnSplitHiddenMonotoneWrongFalsely : Prop := fnSplitHiddenMonotoneRow.holds Tryd.pinned (OpenSpec.ofChange fnSplitHiddenMonotoneWrong)

end Rows
end Go.Proofs.Qxb6601974aDoor
