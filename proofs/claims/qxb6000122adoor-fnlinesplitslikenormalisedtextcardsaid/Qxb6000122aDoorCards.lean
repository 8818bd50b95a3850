/-
  DERIVED. GIVEN WITH THE SEED: THE CARDS: each row of Qxb6000122aDoorRows.lean that lists a variable, with what it lists TIED to the program's text (the seventh form; the later family's looks); each row that meets fmt, with fmt's text TOLD by the authors' own Lean function (tested against real Go, not proved from fmt's source: count such statements apart). THE CARD IS WHAT COUNTS. Prove the row's statement (the work); the ties are given (Qxb6000122aDoorTie.lean); close each card by the builder's one call (the guide's Derived/Test/ToyasCard.lean, 'card_holds'). Laid BY PROGRAM, IN A SANDBOX (cutbox-door.mjs). By AI agents, Wed Nov 11 2026. No macro, syntax, notation, axiom, sorry.
-/
import Derived.Test.Qxb6000122aDoorRows
import GoSem.ClaimSeven
namespace Go.Proofs.Qxb6000122aDoor
namespace Rows

/-- THE TIED CARD OF 'zzlaws_root_b1.FnLineSplitsLikeNormalisedText'. -/
def fnLineSplitsLikeNormalisedTextCard : Claim7 := { stood := { row := fnLineSplitsLikeNormalisedTextRow, standIns := [], harness := (true, "8c64a758463e3d8a00f5bb85f7376b4503d62b7d3ceae8d8abea15dfbd1adc5e"), looks := false }, kinds := [], alts := [], laidByText := true, laidKinds := [.data, .pinned], laidTests := true, laidLooks := .later }
def FnLineSplitsLikeNormalisedTextCardSaid : Prop := Claim7.holds Tryd.pinned (.plain (OpenSpec.ofChange fnLineSplitsLikeNormalisedTextSpec)) fnLineSplitsLikeNormalisedTextCard

/-- THE TIED CARD OF 'zzlaws_root_b1.FnLineStreamedInTwoPiecesAgreesWithWhole'. -/
def fnLineStreamedInTwoPiecesAgreesWithWholeCard : Claim7 := { stood := { row := fnLineStreamedInTwoPiecesAgreesWithWholeRow, standIns := [], harness := (true, "8c64a758463e3d8a00f5bb85f7376b4503d62b7d3ceae8d8abea15dfbd1adc5e"), looks := false }, kinds := [], alts := [], laidByText := true, laidKinds := [.data, .pinned], laidTests := true, laidLooks := .later }
def FnLineStreamedInTwoPiecesAgreesWithWholeCardSaid : Prop := Claim7.holds Tryd.pinned (.plain (OpenSpec.ofChange fnLineStreamedInTwoPiecesAgreesWithWholeSpec)) fnLineStreamedInTwoPiecesAgreesWithWholeCard
end Rows
end Go.Proofs.Qxb6000122aDoor
