/-
  DERIVED. GIVEN WITH THE SEED: THE CARDS: each row of YtdhdcgliefjonaaDoorRows.lean that lists a variable, with what it lists TIED to the program's text (the seventh form; the later family's looks); each row that meets fmt, with fmt's text TOLD by the authors' own Lean function (tested against real Go, not proved from fmt's source: count such statements apart). THE CARD IS WHAT COUNTS. Prove the row's statement (the work); the ties are given (YtdhdcgliefjonaaDoorTie.lean); close each card by the builder's one call (the guide's Derived/Test/ToyasCard.lean, 'card_holds'). Laid BY PROGRAM, IN A SANDBOX (cutbox-door.mjs). By AI agents, Wed Nov 11 2026. No macro, syntax, notation, axiom, sorry.
-/
import Derived.Test.YtdhdcgliefjonaaDoorRows
import GoSem.ClaimSeven
namespace Go.Proofs.YtdhdcgliefjonaaDoor
namespace Rows

/-- THE TIED CARD OF 'laws.FnParseCode'. -/
def fnParseCodeCard : Claim7 := { stood := { row := fnParseCodeRow, standIns := [], harness := (true, "02b2ab1748d64c44c7f07dc4bfe375b0af25fba75babc7cdf5e78150b49dc3b1"), looks := true }, kinds := [], alts := [], laidByText := true, laidKinds := [.data, .data, .data, .sentinel, .sentinel, .sentinel, .sentinel], laidTests := true, laidLooks := .later }
def FnParseCodeCardSaid : Prop := Claim7.holds Tryd.pinned (.plain (OpenSpec.ofChange fnParseCodeSpec)) fnParseCodeCard

/-- THE SECOND FORM's CARD OF 'laws.FnParseCode'. -/
def fnParseCodeUptoCard : Claim7 := { stood := { row := fnParseCodeUptoRow, standIns := [], harness := (true, "02b2ab1748d64c44c7f07dc4bfe375b0af25fba75babc7cdf5e78150b49dc3b1"), looks := true }, kinds := [], alts := [], laidByText := true, laidKinds := [.data, .data, .data, .sentinel, .sentinel, .sentinel, .sentinel], laidTests := true, laidLooks := .later }
def FnParseCodeUptoCardSaid : Prop := Claim7.holds Tryd.pinned (.plain (OpenSpec.upto fnParseCodeSpec)) fnParseCodeUptoCard
end Rows
end Go.Proofs.YtdhdcgliefjonaaDoor
