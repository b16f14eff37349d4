/-
  DERIVED. GIVEN WITH THE SEED: THE CARDS: each row of YbulkegziFmtRows.lean that lists a variable, with what it lists TIED to the program's text (the seventh form; the later family's looks); each row that meets fmt, with fmt's text TOLD by the authors' own Lean function (tested against real Go, not proved from fmt's source: count such statements apart). THE CARD IS WHAT COUNTS. Prove the row's statement (the work); the ties are given (YbulkegziFmtTie.lean); close each card by the builder's one call (the guide's Derived/Test/ToyasCard.lean, 'card_holds'). Laid BY PROGRAM, IN A SANDBOX (cutbox-door.mjs). By AI agents, Wed Nov 11 2026. No macro, syntax, notation, axiom, sorry.
-/
import Derived.Test.YbulkegziFmtRows
import GoSem.ClaimSeven
namespace Go.Proofs.YbulkegziFmt
namespace Rows

/-- THE TOLD CARD OF 'confirm.LawS6664AWhole'. -/
def lawS6664AWholeCard : Claim7 := { stood := { row := lawS6664AWholeRow, standIns := [], harness := (true, "f666eaf7c5bfedfb94e4c4515dcb0a8b488d94b2ec2a8f43e507018e38e1c0f1"), looks := false }, told := true, goes := false }
def LawS6664AWholeToldSaid : Prop := Claim7.holds Ybaf.pinned (.plain (OpenSpec.ofChange lawS6664AWholeSpec)) lawS6664AWholeCard
/-- ITS FALSE NEIGHBOUR. Refute it at one input. -/
def LawS6664AWholeToldWrongFalsely : Prop := Claim7.holds Ybaf.pinned (.plain (OpenSpec.ofChange lawS6664AWholeWrong)) lawS6664AWholeCard
end Rows
end Go.Proofs.YbulkegziFmt
