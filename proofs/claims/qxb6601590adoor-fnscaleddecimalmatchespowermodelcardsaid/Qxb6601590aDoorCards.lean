/-
  DERIVED. GIVEN WITH THE SEED: THE CARDS: each row of Qxb6601590aDoorRows.lean that lists a variable, with what it lists TIED to the program's text (the seventh form; the later family's looks); each row that meets fmt, with fmt's text TOLD by the authors' own Lean function (tested against real Go, not proved from fmt's source: count such statements apart). THE CARD IS WHAT COUNTS. Prove the row's statement (the work); the ties are given (Qxb6601590aDoorTie.lean); close each card by the builder's one call (the guide's Derived/Test/ToyasCard.lean, 'card_holds'). Laid BY PROGRAM, IN A SANDBOX (cutbox-door.mjs). By AI agents, Wed Nov 11 2026. No macro, syntax, notation, axiom, sorry.
-/
import Derived.Test.Qxb6601590aDoorRows
import GoSem.ClaimSeven
namespace Go.Proofs.Qxb6601590aDoor
namespace Rows

/-- THE TIED CARD OF 'zzlaws_root_b1.FnScaledDecimalMatchesPowerModel'. -/
def fnScaledDecimalMatchesPowerModelCard : Claim7 := { stood := { row := fnScaledDecimalMatchesPowerModelRow, standIns := [], harness := (true, "db8eda66538e9cb292236dc11bfeade2d9c0dadde95720842dc80f3e73198c25"), looks := false }, kinds := [], alts := [], laidByText := true, laidKinds := [.data, .pinned], laidTests := true, laidLooks := .later }
def FnScaledDecimalMatchesPowerModelCardSaid : Prop := Claim7.holds Tryd.pinned (.plain (OpenSpec.ofChange fnScaledDecimalMatchesPowerModelSpec)) fnScaledDecimalMatchesPowerModelCard

/-- THE TIED CARD OF 'zzlaws_root_b1.FnScaledDecimalExponentsAdd'. -/
def fnScaledDecimalExponentsAddCard : Claim7 := { stood := { row := fnScaledDecimalExponentsAddRow, standIns := [], harness := (true, "db8eda66538e9cb292236dc11bfeade2d9c0dadde95720842dc80f3e73198c25"), looks := false }, kinds := [], alts := [], laidByText := true, laidKinds := [.data, .pinned], laidTests := true, laidLooks := .later }
def FnScaledDecimalExponentsAddCardSaid : Prop := Claim7.holds Tryd.pinned (.plain (OpenSpec.ofChange fnScaledDecimalExponentsAddSpec)) fnScaledDecimalExponentsAddCard

/-- THE TIED CARD OF 'zzlaws_root_b1.FnLeadingScalarReadsBuiltObject'. -/
def fnLeadingScalarReadsBuiltObjectCard : Claim7 := { stood := { row := fnLeadingScalarReadsBuiltObjectRow, standIns := [], harness := (true, "db8eda66538e9cb292236dc11bfeade2d9c0dadde95720842dc80f3e73198c25"), looks := false }, kinds := [], alts := [], laidByText := true, laidKinds := [.data, .pinned], laidTests := true, laidLooks := .later }
def FnLeadingScalarReadsBuiltObjectCardSaid : Prop := Claim7.holds Tryd.pinned (.plain (OpenSpec.ofChange fnLeadingScalarReadsBuiltObjectSpec)) fnLeadingScalarReadsBuiltObjectCard
end Rows
end Go.Proofs.Qxb6601590aDoor
