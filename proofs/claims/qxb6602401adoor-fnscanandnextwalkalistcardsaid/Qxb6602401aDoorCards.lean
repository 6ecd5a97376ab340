/-
  DERIVED. GIVEN WITH THE SEED: THE CARDS: each row of Qxb6602401aDoorRows.lean that lists a variable, with what it lists TIED to the program's text (the seventh form; the later family's looks); each row that meets fmt, with fmt's text TOLD by the authors' own Lean function (tested against real Go, not proved from fmt's source: count such statements apart). THE CARD IS WHAT COUNTS. Prove the row's statement (the work); the ties are given (Qxb6602401aDoorTie.lean); close each card by the builder's one call (the guide's Derived/Test/ToyasCard.lean, 'card_holds'). Laid BY PROGRAM, IN A SANDBOX (cutbox-door.mjs). By AI agents, Wed Nov 11 2026. No macro, syntax, notation, axiom, sorry.
-/
import Derived.Test.Qxb6602401aDoorRows
import GoSem.ClaimSeven
namespace Go.Proofs.Qxb6602401aDoor
namespace Rows

/-- THE TIED CARD OF 'zzlaws_jsonscan_b1.FnScanMatchesTwoPassModel'. -/
def fnScanMatchesTwoPassModelCard : Claim7 := { stood := { row := fnScanMatchesTwoPassModelRow, standIns := [], harness := (true, "4e74b19c5b8c0bbb2c7481fb6785c6229493aea74ee466bf0cab4a5dc599fe33"), looks := false }, kinds := [], alts := [], laidByText := true, laidKinds := [.data, .pinned], laidTests := true, laidLooks := .later }
def FnScanMatchesTwoPassModelCardSaid : Prop := Claim7.holds Tryd.pinned (.plain (OpenSpec.ofChange fnScanMatchesTwoPassModelSpec)) fnScanMatchesTwoPassModelCard

/-- THE TIED CARD OF 'zzlaws_jsonscan_b1.FnScanIgnoresBytesPastItsEnd'. -/
def fnScanIgnoresBytesPastItsEndCard : Claim7 := { stood := { row := fnScanIgnoresBytesPastItsEndRow, standIns := [], harness := (true, "4e74b19c5b8c0bbb2c7481fb6785c6229493aea74ee466bf0cab4a5dc599fe33"), looks := false }, kinds := [], alts := [], laidByText := true, laidKinds := [.data, .pinned], laidTests := true, laidLooks := .later }
def FnScanIgnoresBytesPastItsEndCardSaid : Prop := Claim7.holds Tryd.pinned (.plain (OpenSpec.ofChange fnScanIgnoresBytesPastItsEndSpec)) fnScanIgnoresBytesPastItsEndCard

/-- THE TIED CARD OF 'zzlaws_jsonscan_b1.FnScanOfItsOwnSpanIsUnchanged'. -/
def fnScanOfItsOwnSpanIsUnchangedCard : Claim7 := { stood := { row := fnScanOfItsOwnSpanIsUnchangedRow, standIns := [], harness := (true, "4e74b19c5b8c0bbb2c7481fb6785c6229493aea74ee466bf0cab4a5dc599fe33"), looks := false }, kinds := [], alts := [], laidByText := true, laidKinds := [.data, .pinned], laidTests := true, laidLooks := .later }
def FnScanOfItsOwnSpanIsUnchangedCardSaid : Prop := Claim7.holds Tryd.pinned (.plain (OpenSpec.ofChange fnScanOfItsOwnSpanIsUnchangedSpec)) fnScanOfItsOwnSpanIsUnchangedCard

/-- THE TIED CARD OF 'zzlaws_jsonscan_b1.FnScanAndNextWalkAList'. -/
def fnScanAndNextWalkAListCard : Claim7 := { stood := { row := fnScanAndNextWalkAListRow, standIns := [], harness := (true, "4e74b19c5b8c0bbb2c7481fb6785c6229493aea74ee466bf0cab4a5dc599fe33"), looks := false }, kinds := [], alts := [], laidByText := true, laidKinds := [.data, .pinned], laidTests := true, laidLooks := .later }
def FnScanAndNextWalkAListCardSaid : Prop := Claim7.holds Tryd.pinned (.plain (OpenSpec.ofChange fnScanAndNextWalkAListSpec)) fnScanAndNextWalkAListCard
end Rows
end Go.Proofs.Qxb6602401aDoor
