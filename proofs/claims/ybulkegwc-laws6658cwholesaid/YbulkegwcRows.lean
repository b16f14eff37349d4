/-
  No cell of these rows narrows 'for every input' (looked for: loops, veiled, ifaces, maps, wideKeys, modest, calm, conditions, laid).
  DERIVED. THE GIVEN ROWS OF THIS SEAT. 3 by the template 'for every input the law returns true; each argument reads behind the call as it read before'; 0 by the template 'total and deterministic' (their statements: YbulkegwcTotals.lean).
  GIVEN WITH THE SEED: the statements are not yours to turn. If you find one false, say at which input.
  Laid BY PROGRAM, IN A SANDBOX (cutbox-rows.mjs): the forced cells as the released guide's own fill.sh prints them over the translation 8500772b2f9c4545… (all of the seat's roots in one cut). By AI agents, Wed Nov 11 2026. No macro, syntax, notation, axiom, sorry.
-/
import Derived.Test.YbulkegwcChecked
import GoSem.Claim
import GoSem.ClaimJoined
import GoSem.ClaimMapViews
import Derived.JoinedTies
import Derived.KernelRfl
namespace Go.Proofs.Ybulkegwc
/- THE CELL 'sum', in the pinned program and in every row, IS THE sha256 OF THE DUMP (.gsa) THAT YbulkegwcProg.lean LOADS. Nothing in Lean hashes anything: it is a label: what it is worth is what the hold of that sum in a sandbox is worth. -/
noncomputable def Yba.pinned : Pinned := { name := "ybulkegwc", sum := "8500772b2f9c45452cff678abea4e55cb8024254fde49fb51446ff83d23429c2", checked := Yba.checked }
namespace Rows
def none {H : Type} : Left H := { results := [], args := [] }

/-- 'spindle.LawS6658BWhole': WHATEVER THE INPUT: true; the input reads as it did. -/
def lawS6658BWholeSpec : ChangeSpec := { name := "lawS6658BWhole", fn := fun _ => fun
  | [d1, d2, d3] => { results := [.lit (.bool true)], args := [d1, d2, d3] }
  | _ => none }
def lawS6658BWholeRow : OpenClaim := { program := "ybulkegwc", sum := "8500772b2f9c45452cff678abea4e55cb8024254fde49fb51446ff83d23429c2", func := "example.com/spindle/spindle.LawS6658BWhole", spec := "lawS6658BWhole", apart := false }
def LawS6658BWholeSaid : Prop := lawS6658BWholeRow.holds Yba.pinned (OpenSpec.ofChange lawS6658BWholeSpec)

/-- ITS FALSE NEIGHBOUR: 'it returns false'. Refute it at one input. -/
def lawS6658BWholeWrong : ChangeSpec := { name := "lawS6658BWhole", fn := fun _ => fun
  | [d1, d2, d3] => { results := [.lit (.bool false)], args := [d1, d2, d3] }
  | _ => none }
def LawS6658BWholeWrongFalsely : Prop := lawS6658BWholeRow.holds Yba.pinned (OpenSpec.ofChange lawS6658BWholeWrong)

/-- 'spindle.LawS6658BPushPop': WHATEVER THE INPUT: true; the input reads as it did. -/
def lawS6658BPushPopSpec : ChangeSpec := { name := "lawS6658BPushPop", fn := fun _ => fun
  | [d1, d2, d3] => { results := [.lit (.bool true)], args := [d1, d2, d3] }
  | _ => none }
def lawS6658BPushPopRow : OpenClaim := { program := "ybulkegwc", sum := "8500772b2f9c45452cff678abea4e55cb8024254fde49fb51446ff83d23429c2", func := "example.com/spindle/spindle.LawS6658BPushPop", spec := "lawS6658BPushPop", apart := false }
def LawS6658BPushPopSaid : Prop := lawS6658BPushPopRow.holds Yba.pinned (OpenSpec.ofChange lawS6658BPushPopSpec)

/-- ITS FALSE NEIGHBOUR: 'it returns false'. Refute it at one input. -/
def lawS6658BPushPopWrong : ChangeSpec := { name := "lawS6658BPushPop", fn := fun _ => fun
  | [d1, d2, d3] => { results := [.lit (.bool false)], args := [d1, d2, d3] }
  | _ => none }
def LawS6658BPushPopWrongFalsely : Prop := lawS6658BPushPopRow.holds Yba.pinned (OpenSpec.ofChange lawS6658BPushPopWrong)

/-- 'spindle.LawS6658CWhole': WHATEVER THE INPUT: true; the input reads as it did. -/
def lawS6658CWholeSpec : ChangeSpec := { name := "lawS6658CWhole", fn := fun _ => fun
  | [d1, d2, d3, d4, d5, d6, d7, d8, d9, d10] => { results := [.lit (.bool true)], args := [d1, d2, d3, d4, d5, d6, d7, d8, d9, d10] }
  | _ => none }
def lawS6658CWholeRow : OpenClaim := { program := "ybulkegwc", sum := "8500772b2f9c45452cff678abea4e55cb8024254fde49fb51446ff83d23429c2", func := "example.com/spindle/spindle.LawS6658CWhole", spec := "lawS6658CWhole", inPlace := ["sync/atomic.StoreInt64", "sync/atomic.StoreInt32", "sync/atomic.StoreUint32", "(*internal/sync.Mutex).Lock", "internal/race.Disable", "sync/atomic.CompareAndSwapInt32", "internal/race.Enable", "internal/race.Acquire", "(*internal/sync.Mutex).lockSlow", "internal/sync.runtime_canSpin", "internal/sync.runtime_doSpin", "internal/sync.throw", "internal/sync.runtime_nanotime", "internal/sync.runtime_SemacquireMutex", "sync/atomic.AddInt32", "(*internal/sync.Mutex).Unlock", "internal/race.ReleaseMerge", "(*internal/sync.Mutex).unlockSlow", "internal/sync.fatal", "internal/sync.runtime_Semrelease", "sync/atomic.LoadInt64", "sync/atomic.LoadInt32", "sync/atomic.LoadUint32", "sync/atomic.CompareAndSwapUint32", "sync/atomic.CompareAndSwapInt64", "(*internal/sync.Mutex).TryLock"], unfollowed := true, recurses := true, apart := false }
def LawS6658CWholeSaid : Prop := lawS6658CWholeRow.holds Yba.pinned (OpenSpec.ofChange lawS6658CWholeSpec)

/-- ITS FALSE NEIGHBOUR: 'it returns false'. Refute it at one input. -/
def lawS6658CWholeWrong : ChangeSpec := { name := "lawS6658CWhole", fn := fun _ => fun
  | [d1, d2, d3, d4, d5, d6, d7, d8, d9, d10] => { results := [.lit (.bool false)], args := [d1, d2, d3, d4, d5, d6, d7, d8, d9, d10] }
  | _ => none }
def LawS6658CWholeWrongFalsely : Prop := lawS6658CWholeRow.holds Yba.pinned (OpenSpec.ofChange lawS6658CWholeWrong)

end Rows
end Go.Proofs.Ybulkegwc
