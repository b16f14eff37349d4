/-
  No cell of these rows narrows 'for every input' (looked for: loops, veiled, ifaces, maps, wideKeys, modest, calm, conditions, laid).
  DERIVED. THE GIVEN ROWS OF THIS SEAT. 1 by the template 'for every input the law returns true; each argument reads behind the call as it read before'; 0 by the template 'total and deterministic' (their statements: YbulkegziFmtTotals.lean).
  GIVEN WITH THE SEED: the statements are not yours to turn. If you find one false, say at which input.
  Laid BY PROGRAM, IN A SANDBOX (cutbox-rows.mjs): the forced cells as the released guide's own fill.sh prints them over the translation f775677d3263ad3a… (all of the seat's roots in one cut). By AI agents, Wed Nov 11 2026. No macro, syntax, notation, axiom, sorry.
-/
import Derived.Test.YbulkegziFmtChecked
import GoSem.Claim
import GoSem.ClaimJoined
import GoSem.ClaimMapViews
import Derived.JoinedTies
import Derived.KernelRfl
namespace Go.Proofs.YbulkegziFmt
/- THE CELL 'sum', in the pinned program and in every row, IS THE sha256 OF THE DUMP (.gsa) THAT YbulkegziFmtProg.lean LOADS. Nothing in Lean hashes anything: it is a label: what it is worth is what the hold of that sum in a sandbox is worth. -/
noncomputable def Ybaf.pinned : Pinned := { name := "ybulkegzifmt", sum := "f775677d3263ad3a7b04c61eec61c4b3e41445f4dbebad71a58f675df823e1b8", checked := Ybaf.checked }
namespace Rows
def none {H : Type} : Left H := { results := [], args := [] }

/-- 'confirm.LawS6664AWhole': WHATEVER THE INPUT: true; the input reads as it did. -/
def lawS6664AWholeSpec : ChangeSpec := { name := "lawS6664AWhole", fn := fun _ => fun
  | [d1, d2, d3, d4, d5, d6, d7, d8, d9, d10, d11] => { results := [.lit (.bool true)], args := [d1, d2, d3, d4, d5, d6, d7, d8, d9, d10, d11] }
  | _ => none }
def lawS6664AWholeRow : OpenClaim := { program := "ybulkegzifmt", sum := "f775677d3263ad3a7b04c61eec61c4b3e41445f4dbebad71a58f675df823e1b8", func := "example.com/zhaomu/zhaomu/confirm.LawS6664AWhole", spec := "lawS6664AWhole", stops := ["fmt.errorf"], inPlace := ["fmt.errorf"], apart := false }
/-- NO THEOREM (fmt's text is open here; it may be false): for the released tool's asking of the row's closed facts alone. THE STATEMENT IS 'LawS6664AWholeToldSaid' (YbulkegziFmtCards.lean). -/
def LawS6664AWholeFormAsk : Prop := lawS6664AWholeRow.holds Ybaf.pinned (OpenSpec.ofChange lawS6664AWholeSpec)

/-- ITS FALSE NEIGHBOUR: 'it returns false'. Refute it at one input. -/
def lawS6664AWholeWrong : ChangeSpec := { name := "lawS6664AWhole", fn := fun _ => fun
  | [d1, d2, d3, d4, d5, d6, d7, d8, d9, d10, d11] => { results := [.lit (.bool false)], args := [d1, d2, d3, d4, d5, d6, d7, d8, d9, d10, d11] }
  | _ => none }
def LawS6664AWholeWrongFormAsk : Prop := lawS6664AWholeRow.holds Ybaf.pinned (OpenSpec.ofChange lawS6664AWholeWrong)

end Rows
end Go.Proofs.YbulkegziFmt
