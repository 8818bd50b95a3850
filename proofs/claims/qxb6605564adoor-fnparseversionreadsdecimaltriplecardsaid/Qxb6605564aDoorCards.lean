/-
  DERIVED. GIVEN WITH THE SEED: THE CARDS: each row of Qxb6605564aDoorRows.lean that lists a variable, with what it lists TIED to the program's text (the seventh form; the later family's looks); each row that meets fmt, with fmt's text TOLD by the authors' own Lean function (tested against real Go, not proved from fmt's source: count such statements apart). THE CARD IS WHAT COUNTS. Prove the row's statement (the work); the ties are given (Qxb6605564aDoorTie.lean); close each card by the builder's one call (the guide's Derived/Test/ToyasCard.lean, 'card_holds'). Laid BY PROGRAM, IN A SANDBOX (cutbox-door.mjs). By AI agents, Wed Nov 11 2026. No macro, syntax, notation, axiom, sorry.
-/
import Derived.Test.Qxb6605564aDoorRows
import GoSem.ClaimSeven
namespace Go.Proofs.Qxb6605564aDoor
namespace Rows

/-- THE TIED CARD OF 'zzlaws_internal_registry_b1.FnParseVersionMatchesGrammar'. -/
def fnParseVersionMatchesGrammarCard : Claim7 := { stood := { row := fnParseVersionMatchesGrammarRow, standIns := [], harness := (true, "5595f146155e2684f316498e4325f2ec0dda70a04ca9e44889b78985ce453315"), looks := true }, kinds := [], alts := [], laidByText := true, laidKinds := [.data, .data, .data, .data, .sentinel, .sentinel, .pinned], laidTests := true, laidLooks := .later }
def FnParseVersionMatchesGrammarCardSaid : Prop := Claim7.holds Tryd.pinned (.plain (OpenSpec.ofChange fnParseVersionMatchesGrammarSpec)) fnParseVersionMatchesGrammarCard

/-- THE TIED CARD OF 'zzlaws_internal_registry_b1.FnParseVersionReadsDecimalTriple'. -/
def fnParseVersionReadsDecimalTripleCard : Claim7 := { stood := { row := fnParseVersionReadsDecimalTripleRow, standIns := [], harness := (true, "5595f146155e2684f316498e4325f2ec0dda70a04ca9e44889b78985ce453315"), looks := true }, kinds := [], alts := [], laidByText := true, laidKinds := [.data, .data, .data, .data, .sentinel, .sentinel, .pinned], laidTests := true, laidLooks := .later }
def FnParseVersionReadsDecimalTripleCardSaid : Prop := Claim7.holds Tryd.pinned (.plain (OpenSpec.ofChange fnParseVersionReadsDecimalTripleSpec)) fnParseVersionReadsDecimalTripleCard
end Rows
end Go.Proofs.Qxb6605564aDoor
