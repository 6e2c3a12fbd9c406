/-
  DERIVED. GIVEN WITH THE SEED: THE CARDS: each row of YbulkavloDoorRows.lean that lists a variable, with what it lists TIED to the program's text (the seventh form; the later family's looks); each row that meets fmt, with fmt's text TOLD by the authors' own Lean function (tested against real Go, not proved from fmt's source: count such statements apart). THE CARD IS WHAT COUNTS. Prove the row's statement (the work); the ties are given (YbulkavloDoorTie.lean); close each card by the builder's one call (the guide's Derived/Test/ToyasCard.lean, 'card_holds'). Laid BY PROGRAM, IN A SANDBOX (cutbox-door.mjs). By AI agents, Wed Nov 11 2026. No macro, syntax, notation, axiom, sorry.
-/
import Derived.Test.YbulkavloDoorRows
import GoSem.ClaimSeven
namespace Go.Proofs.YbulkavloDoor
namespace Rows

/-- THE TIED CARD OF 'lyndon.LawS2341ASplit'. -/
def lawS2341ASplitCard : Claim7 := { stood := { row := lawS2341ASplitRow, standIns := [], harness := (true, "7f34d41de0e4ac9df70319223716e49a2a99cf05935404d0805969285ac33c5b"), looks := false }, kinds := [], alts := [], laidByText := true, laidKinds := [.data], laidTests := true, laidLooks := .later }
def LawS2341ASplitCardSaid : Prop := Claim7.holds Ybad.pinned (.plain (OpenSpec.ofChange lawS2341ASplitSpec)) lawS2341ASplitCard

/-- THE TIED CARD OF 'lyndon.LawS2341AOne'. -/
def lawS2341AOneCard : Claim7 := { stood := { row := lawS2341AOneRow, standIns := [], harness := (true, "7f34d41de0e4ac9df70319223716e49a2a99cf05935404d0805969285ac33c5b"), looks := false }, kinds := [], alts := [], laidByText := true, laidKinds := [.data], laidTests := true, laidLooks := .later }
def LawS2341AOneCardSaid : Prop := Claim7.holds Ybad.pinned (.plain (OpenSpec.ofChange lawS2341AOneSpec)) lawS2341AOneCard

/-- THE TIED CARD OF 'lyndon.LawS2341CLong'. -/
def lawS2341CLongCard : Claim7 := { stood := { row := lawS2341CLongRow, standIns := [], harness := (true, "7f34d41de0e4ac9df70319223716e49a2a99cf05935404d0805969285ac33c5b"), looks := false }, kinds := [], alts := [], laidByText := true, laidKinds := [.data], laidTests := true, laidLooks := .later }
def LawS2341CLongCardSaid : Prop := Claim7.holds Ybad.pinned (.plain (OpenSpec.ofChange lawS2341CLongSpec)) lawS2341CLongCard

/-- THE TIED CARD OF 'lyndon.LawS2341COne'. -/
def lawS2341COneCard : Claim7 := { stood := { row := lawS2341COneRow, standIns := [], harness := (true, "7f34d41de0e4ac9df70319223716e49a2a99cf05935404d0805969285ac33c5b"), looks := false }, kinds := [], alts := [], laidByText := true, laidKinds := [.data], laidTests := true, laidLooks := .later }
def LawS2341COneCardSaid : Prop := Claim7.holds Ybad.pinned (.plain (OpenSpec.ofChange lawS2341COneSpec)) lawS2341COneCard
end Rows
end Go.Proofs.YbulkavloDoor
