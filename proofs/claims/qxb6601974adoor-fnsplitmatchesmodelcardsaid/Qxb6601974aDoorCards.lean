/-
  DERIVED. GIVEN WITH THE SEED: THE CARDS: each row of Qxb6601974aDoorRows.lean that lists a variable, with what it lists TIED to the program's text (the seventh form; the later family's looks); each row that meets fmt, with fmt's text TOLD by the authors' own Lean function (tested against real Go, not proved from fmt's source: count such statements apart). THE CARD IS WHAT COUNTS. Prove the row's statement (the work); the ties are given (Qxb6601974aDoorTie.lean); close each card by the builder's one call (the guide's Derived/Test/ToyasCard.lean, 'card_holds'). Laid BY PROGRAM, IN A SANDBOX (cutbox-door.mjs). By AI agents, Wed Nov 11 2026. No macro, syntax, notation, axiom, sorry.
-/
import Derived.Test.Qxb6601974aDoorRows
import GoSem.ClaimSeven
namespace Go.Proofs.Qxb6601974aDoor
namespace Rows

/-- THE TIED CARD OF 'zzlaws_internal_redact_b1.FnSplitMatchesModel'. -/
def fnSplitMatchesModelCard : Claim7 := { stood := { row := fnSplitMatchesModelRow, standIns := [], harness := (true, "35506a524750ac4883faf48e3000414367de19cb08deb4376197d608885e8ea5"), looks := false }, kinds := [], alts := [], laidByText := true, laidKinds := [.data, .pinned], laidTests := true, laidLooks := .later }
def FnSplitMatchesModelCardSaid : Prop := Claim7.holds Tryd.pinned (.plain (OpenSpec.ofChange fnSplitMatchesModelSpec)) fnSplitMatchesModelCard

/-- THE TIED CARD OF 'zzlaws_internal_redact_b1.FnSplitJoinsBack'. -/
def fnSplitJoinsBackCard : Claim7 := { stood := { row := fnSplitJoinsBackRow, standIns := [], harness := (true, "35506a524750ac4883faf48e3000414367de19cb08deb4376197d608885e8ea5"), looks := false }, kinds := [], alts := [], laidByText := true, laidKinds := [.data, .pinned], laidTests := true, laidLooks := .later }
def FnSplitJoinsBackCardSaid : Prop := Claim7.holds Tryd.pinned (.plain (OpenSpec.ofChange fnSplitJoinsBackSpec)) fnSplitJoinsBackCard

/-- THE TIED CARD OF 'zzlaws_internal_redact_b1.FnSplitHiddenMonotone'. -/
def fnSplitHiddenMonotoneCard : Claim7 := { stood := { row := fnSplitHiddenMonotoneRow, standIns := [], harness := (true, "35506a524750ac4883faf48e3000414367de19cb08deb4376197d608885e8ea5"), looks := false }, kinds := [], alts := [], laidByText := true, laidKinds := [.data, .pinned], laidTests := true, laidLooks := .later }
def FnSplitHiddenMonotoneCardSaid : Prop := Claim7.holds Tryd.pinned (.plain (OpenSpec.ofChange fnSplitHiddenMonotoneSpec)) fnSplitHiddenMonotoneCard
end Rows
end Go.Proofs.Qxb6601974aDoor
