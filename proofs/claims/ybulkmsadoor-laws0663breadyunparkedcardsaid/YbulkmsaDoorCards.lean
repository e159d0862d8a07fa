/-
  DERIVED. GIVEN WITH THE SEED: THE CARDS: each row of YbulkmsaDoorRows.lean that lists a variable, with what it lists TIED to the program's text (the seventh form; the later family's looks); each row that meets fmt, with fmt's text TOLD by the authors' own Lean function (tested against real Go, not proved from fmt's source: count such statements apart). THE CARD IS WHAT COUNTS. Prove the row's statement (the work); the ties are given (YbulkmsaDoorTie.lean); close each card by the builder's one call (the guide's Derived/Test/ToyasCard.lean, 'card_holds'). Laid BY PROGRAM, IN A SANDBOX (cutbox-door.mjs). By AI agents, Wed Nov 11 2026. No macro, syntax, notation, axiom, sorry.
-/
import Derived.Test.YbulkmsaDoorRows
import GoSem.ClaimSeven
namespace Go.Proofs.YbulkmsaDoor
namespace Rows

/-- THE TIED CARD OF 'httpserve.LawS0663BReadyUnparked'. -/
def lawS0663BReadyUnparkedCard : Claim7 := { stood := { row := lawS0663BReadyUnparkedRow, standIns := [], harness := (true, "7a9b8fe28eb4688033776a401895ea9f825615320256d9dd5948788c3675c0d5"), looks := false }, kinds := [], alts := [], laidByText := true, laidKinds := [.wider, .wider, .wider], laidTests := true, laidLooks := .later }
def LawS0663BReadyUnparkedCardSaid : Prop := Claim7.holds Ybad.pinned (.plain (OpenSpec.ofChange lawS0663BReadyUnparkedSpec)) lawS0663BReadyUnparkedCard
end Rows
end Go.Proofs.YbulkmsaDoor
