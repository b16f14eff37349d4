/-
  DERIVED. GIVEN WITH THE SEED: THE CARDS: each row of YbulkehayDoorRows.lean that lists a variable, with what it lists TIED to the program's text (the seventh form; the later family's looks); each row that meets fmt, with fmt's text TOLD by the authors' own Lean function (tested against real Go, not proved from fmt's source: count such statements apart). THE CARD IS WHAT COUNTS. Prove the row's statement (the work); the ties are given (YbulkehayDoorTie.lean); close each card by the builder's one call (the guide's Derived/Test/ToyasCard.lean, 'card_holds'). Laid BY PROGRAM, IN A SANDBOX (cutbox-door.mjs). By AI agents, Wed Nov 11 2026. No macro, syntax, notation, axiom, sorry.
-/
import Derived.Test.YbulkehayDoorRows
import GoSem.ClaimSeven
namespace Go.Proofs.YbulkehayDoor
namespace Rows

/-- THE TIED CARD OF 'swarmwire.LawS6667CWhole'. -/
def lawS6667CWholeCard : Claim7 := { stood := { row := lawS6667CWholeRow, standIns := [], harness := (true, "a72f88ef5a15b4c4bfa6463dbbf1f80a565a29eb356be78c4bd86cf2a95f54dd"), looks := false }, kinds := [], alts := [], laidByText := true, laidKinds := [.data], laidTests := true, laidLooks := .later }
def LawS6667CWholeCardSaid : Prop := Claim7.holds Ybad.pinned (.plain (OpenSpec.ofChange lawS6667CWholeSpec)) lawS6667CWholeCard
end Rows
end Go.Proofs.YbulkehayDoor
