/-
  DERIVED. GIVEN WITH THE SEED: THE CARDS: each row of YbulkmtcDoorRows.lean that lists a variable, with what it lists TIED to the program's text (the seventh form; the later family's looks); each row that meets fmt, with fmt's text TOLD by the authors' own Lean function (tested against real Go, not proved from fmt's source: count such statements apart). THE CARD IS WHAT COUNTS. Prove the row's statement (the work); the ties are given (YbulkmtcDoorTie.lean); close each card by the builder's one call (the guide's Derived/Test/ToyasCard.lean, 'card_holds'). Laid BY PROGRAM, IN A SANDBOX (cutbox-door.mjs). By AI agents, Wed Nov 11 2026. No macro, syntax, notation, axiom, sorry.
-/
import Derived.Test.YbulkmtcDoorRows
import GoSem.ClaimSeven
namespace Go.Proofs.YbulkmtcDoor
namespace Rows

/-- THE TIED CARD OF 'patchwright.LawS0665CAgrees'. -/
def lawS0665CAgreesCard : Claim7 := { stood := { row := lawS0665CAgreesRow, standIns := [], harness := (true, "054898343ea3ce5f492571a65e7307731e1cc2b59986f51330d6b26ffde56569"), looks := false }, kinds := [], alts := [], laidByText := true, laidKinds := [.data], laidTests := true, laidLooks := .later }
def LawS0665CAgreesCardSaid : Prop := Claim7.holds Ybad.pinned (.plain (OpenSpec.ofChange lawS0665CAgreesSpec)) lawS0665CAgreesCard

/-- THE TIED CARD OF 'patchwright.LawS0665CRepeat'. -/
def lawS0665CRepeatCard : Claim7 := { stood := { row := lawS0665CRepeatRow, standIns := [], harness := (true, "054898343ea3ce5f492571a65e7307731e1cc2b59986f51330d6b26ffde56569"), looks := false }, kinds := [], alts := [], laidByText := true, laidKinds := [.data], laidTests := true, laidLooks := .later }
def LawS0665CRepeatCardSaid : Prop := Claim7.holds Ybad.pinned (.plain (OpenSpec.ofChange lawS0665CRepeatSpec)) lawS0665CRepeatCard
end Rows
end Go.Proofs.YbulkmtcDoor
