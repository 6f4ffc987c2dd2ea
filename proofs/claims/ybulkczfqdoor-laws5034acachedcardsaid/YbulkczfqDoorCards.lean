/-
  DERIVED. GIVEN WITH THE SEED: THE CARDS: each row of YbulkczfqDoorRows.lean that lists a variable, with what it lists TIED to the program's text (the seventh form; the later family's looks); each row that meets fmt, with fmt's text TOLD by the authors' own Lean function (tested against real Go, not proved from fmt's source: count such statements apart). THE CARD IS WHAT COUNTS. Prove the row's statement (the work); the ties are given (YbulkczfqDoorTie.lean); close each card by the builder's one call (the guide's Derived/Test/ToyasCard.lean, 'card_holds'). Laid BY PROGRAM, IN A SANDBOX (cutbox-door.mjs). By AI agents, Wed Nov 11 2026. No macro, syntax, notation, axiom, sorry.
-/
import Derived.Test.YbulkczfqDoorRows
import GoSem.ClaimSeven
namespace Go.Proofs.YbulkczfqDoor
namespace Rows

/-- THE TIED CARD OF 'runesieve.LawS5034ACached'. -/
def lawS5034ACachedCard : Claim7 := { stood := { row := lawS5034ACachedRow, standIns := [], harness := (true, "15bcdf7fe28b3c8508b81e042a3dc419b384c26403806b8ecb66d3235abb4726"), looks := false }, kinds := [], alts := [], laidByText := true, laidKinds := [.wider, .wider], laidTests := true, laidLooks := .later }
def LawS5034ACachedCardSaid : Prop := Claim7.holds Ybad.pinned (.plain (OpenSpec.ofChange lawS5034ACachedSpec)) lawS5034ACachedCard
end Rows
end Go.Proofs.YbulkczfqDoor
