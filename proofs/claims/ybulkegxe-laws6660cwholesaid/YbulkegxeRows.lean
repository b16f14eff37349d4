/-
  No cell of these rows narrows 'for every input' (looked for: loops, veiled, ifaces, maps, wideKeys, modest, calm, conditions, laid).
  DERIVED. THE GIVEN ROWS OF THIS SEAT. 2 by the template 'for every input the law returns true; each argument reads behind the call as it read before'; 0 by the template 'total and deterministic' (their statements: YbulkegxeTotals.lean).
  GIVEN WITH THE SEED: the statements are not yours to turn. If you find one false, say at which input.
  Laid BY PROGRAM, IN A SANDBOX (cutbox-rows.mjs): the forced cells as the released guide's own fill.sh prints them over the translation 3bb48870f026c7f8… (all of the seat's roots in one cut). By AI agents, Wed Nov 11 2026. No macro, syntax, notation, axiom, sorry.
-/
import Derived.Test.YbulkegxeChecked
import GoSem.Claim
import GoSem.ClaimJoined
import GoSem.ClaimMapViews
import Derived.JoinedTies
import Derived.KernelRfl
namespace Go.Proofs.Ybulkegxe
/- THE CELL 'sum', in the pinned program and in every row, IS THE sha256 OF THE DUMP (.gsa) THAT YbulkegxeProg.lean LOADS. Nothing in Lean hashes anything: it is a label: what it is worth is what the hold of that sum in a sandbox is worth. -/
noncomputable def Yba.pinned : Pinned := { name := "ybulkegxe", sum := "3bb48870f026c7f8784adeabce9b8fb08d2a48d79eb1e77f2e828632eb06b500", checked := Yba.checked }
namespace Rows
def none {H : Type} : Left H := { results := [], args := [] }

/-- 'nearkeep.LawS6660BWhole': WHATEVER THE INPUT: true; the input reads as it did. -/
def lawS6660BWholeSpec : ChangeSpec := { name := "lawS6660BWhole", fn := fun _ => fun
  | [d1, d2, d3, d4, d5] => { results := [.lit (.bool true)], args := [d1, d2, d3, d4, d5] }
  | _ => none }
def lawS6660BWholeRow : OpenClaim := { program := "ybulkegxe", sum := "3bb48870f026c7f8784adeabce9b8fb08d2a48d79eb1e77f2e828632eb06b500", func := "example.com/nearkeep/nearkeep.LawS6660BWhole", spec := "lawS6660BWhole", unfollowed := true, recurses := true, apart := false }
def LawS6660BWholeSaid : Prop := lawS6660BWholeRow.holds Yba.pinned (OpenSpec.ofChange lawS6660BWholeSpec)

/-- ITS FALSE NEIGHBOUR: 'it returns false'. Refute it at one input. -/
def lawS6660BWholeWrong : ChangeSpec := { name := "lawS6660BWhole", fn := fun _ => fun
  | [d1, d2, d3, d4, d5] => { results := [.lit (.bool false)], args := [d1, d2, d3, d4, d5] }
  | _ => none }
def LawS6660BWholeWrongFalsely : Prop := lawS6660BWholeRow.holds Yba.pinned (OpenSpec.ofChange lawS6660BWholeWrong)

/-- 'nearkeep.LawS6660CWhole': WHATEVER THE INPUT: true; the input reads as it did. -/
def lawS6660CWholeSpec : ChangeSpec := { name := "lawS6660CWhole", fn := fun _ => fun
  | [d1, d2, d3, d4, d5] => { results := [.lit (.bool true)], args := [d1, d2, d3, d4, d5] }
  | _ => none }
def lawS6660CWholeRow : OpenClaim := { program := "ybulkegxe", sum := "3bb48870f026c7f8784adeabce9b8fb08d2a48d79eb1e77f2e828632eb06b500", func := "example.com/nearkeep/nearkeep.LawS6660CWhole", spec := "lawS6660CWhole", unfollowed := true, recurses := true, named := ["encoding/binary.BigEndian", "encoding/binary.LittleEndian"], apart := false }
def LawS6660CWholeSaid : Prop := lawS6660CWholeRow.holds Yba.pinned (OpenSpec.ofChange lawS6660CWholeSpec)

/-- ITS FALSE NEIGHBOUR: 'it returns false'. Refute it at one input. -/
def lawS6660CWholeWrong : ChangeSpec := { name := "lawS6660CWhole", fn := fun _ => fun
  | [d1, d2, d3, d4, d5] => { results := [.lit (.bool false)], args := [d1, d2, d3, d4, d5] }
  | _ => none }
def LawS6660CWholeWrongFalsely : Prop := lawS6660CWholeRow.holds Yba.pinned (OpenSpec.ofChange lawS6660CWholeWrong)

end Rows
end Go.Proofs.Ybulkegxe
