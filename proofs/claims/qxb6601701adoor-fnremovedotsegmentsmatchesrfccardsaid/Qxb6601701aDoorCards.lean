/-
  DERIVED. GIVEN WITH THE SEED: THE CARDS: each row of Qxb6601701aDoorRows.lean that lists a variable, with what it lists TIED to the program's text (the seventh form; the later family's looks); each row that meets fmt, with fmt's text TOLD by the authors' own Lean function (tested against real Go, not proved from fmt's source: count such statements apart). THE CARD IS WHAT COUNTS. Prove the row's statement (the work); the ties are given (Qxb6601701aDoorTie.lean); close each card by the builder's one call (the guide's Derived/Test/ToyasCard.lean, 'card_holds'). Laid BY PROGRAM, IN A SANDBOX (cutbox-door.mjs). By AI agents, Wed Nov 11 2026. No macro, syntax, notation, axiom, sorry.
-/
import Derived.Test.Qxb6601701aDoorRows
import GoSem.ClaimSeven
namespace Go.Proofs.Qxb6601701aDoor
namespace Rows

/-- THE TIED CARD OF 'zzlaws_root_b1.FnNormalEscapesKeepsMeaning'. -/
def fnNormalEscapesKeepsMeaningCard : Claim7 := { stood := { row := fnNormalEscapesKeepsMeaningRow, standIns := [], harness := (true, "4598770ad4b6df9eaedb883f6e87c0eb8b3365f864b0f5f187bfeceae347d600"), looks := true }, kinds := [], alts := [], laidByText := true, laidKinds := [.data, .data, .data, .data, .sentinel, .sentinel, .pinned, .pinned], laidTests := true, laidLooks := .later }
def FnNormalEscapesKeepsMeaningCardSaid : Prop := Claim7.holds Tryd.pinned (.plain (OpenSpec.ofChange fnNormalEscapesKeepsMeaningSpec)) fnNormalEscapesKeepsMeaningCard

/-- THE TIED CARD OF 'zzlaws_root_b1.FnNormalEscapesIdempotentOnWellFormed'. -/
def fnNormalEscapesIdempotentOnWellFormedCard : Claim7 := { stood := { row := fnNormalEscapesIdempotentOnWellFormedRow, standIns := [], harness := (true, "4598770ad4b6df9eaedb883f6e87c0eb8b3365f864b0f5f187bfeceae347d600"), looks := true }, kinds := [], alts := [], laidByText := true, laidKinds := [.data, .data, .data, .data, .sentinel, .sentinel, .pinned, .pinned], laidTests := true, laidLooks := .later }
def FnNormalEscapesIdempotentOnWellFormedCardSaid : Prop := Claim7.holds Tryd.pinned (.plain (OpenSpec.ofChange fnNormalEscapesIdempotentOnWellFormedSpec)) fnNormalEscapesIdempotentOnWellFormedCard

/-- THE TIED CARD OF 'zzlaws_root_b1.FnRemoveDotSegmentsMatchesRFC'. -/
def fnRemoveDotSegmentsMatchesRFCCard : Claim7 := { stood := { row := fnRemoveDotSegmentsMatchesRFCRow, standIns := [], harness := (true, "4598770ad4b6df9eaedb883f6e87c0eb8b3365f864b0f5f187bfeceae347d600"), looks := true }, kinds := [], alts := [], laidByText := true, laidKinds := [.data, .pinned], laidTests := true, laidLooks := .later }
def FnRemoveDotSegmentsMatchesRFCCardSaid : Prop := Claim7.holds Tryd.pinned (.plain (OpenSpec.ofChange fnRemoveDotSegmentsMatchesRFCSpec)) fnRemoveDotSegmentsMatchesRFCCard

/-- THE TIED CARD OF 'zzlaws_root_b1.FnRemoveDotSegmentsIdempotent'. -/
def fnRemoveDotSegmentsIdempotentCard : Claim7 := { stood := { row := fnRemoveDotSegmentsIdempotentRow, standIns := [], harness := (true, "4598770ad4b6df9eaedb883f6e87c0eb8b3365f864b0f5f187bfeceae347d600"), looks := true }, kinds := [], alts := [], laidByText := true, laidKinds := [.data, .pinned], laidTests := true, laidLooks := .later }
def FnRemoveDotSegmentsIdempotentCardSaid : Prop := Claim7.holds Tryd.pinned (.plain (OpenSpec.ofChange fnRemoveDotSegmentsIdempotentSpec)) fnRemoveDotSegmentsIdempotentCard

/-- THE TIED CARD OF 'zzlaws_root_b1.FnRemoveDotSegmentsNoDotsNeverGrows'. -/
def fnRemoveDotSegmentsNoDotsNeverGrowsCard : Claim7 := { stood := { row := fnRemoveDotSegmentsNoDotsNeverGrowsRow, standIns := [], harness := (true, "4598770ad4b6df9eaedb883f6e87c0eb8b3365f864b0f5f187bfeceae347d600"), looks := true }, kinds := [], alts := [], laidByText := true, laidKinds := [.data, .pinned], laidTests := true, laidLooks := .later }
def FnRemoveDotSegmentsNoDotsNeverGrowsCardSaid : Prop := Claim7.holds Tryd.pinned (.plain (OpenSpec.ofChange fnRemoveDotSegmentsNoDotsNeverGrowsSpec)) fnRemoveDotSegmentsNoDotsNeverGrowsCard
end Rows
end Go.Proofs.Qxb6601701aDoor
