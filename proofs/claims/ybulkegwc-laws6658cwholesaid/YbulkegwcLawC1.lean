import Derived.Test.YbulkegwcTuneB
import Derived.Deep.DeepCutAuto
namespace Go.Proofs.Ybulkegwc
open Go.RowKit

theorem mk_room (w : World) : (Instr.makeChan 32 (.int .i64 1)).run Yba.prog w = .ok (.chan (some w.heap.size)) (w.alloc (.chan 1 #[] false 0 0 false)) := by kernel_rfl
/-- the closed bit -/
def clb (c : Bool) : Int := if c then 4611686018427387904 else 0

/-- the world in which Tune is called: z, the options, the channel, the pool -/
def Laid (w wx : World) (a0 : Int) (a1 : Bool) (x s st idle : Int) (a4 : Bool) (a6 : Int) (a7 : Bool) : Prop :=
  wx.heap[w.heap.size]? = some (.cells #[.int .i64 idle, .slice none 0 0] 47 (0, 0)) ∧
  wx.heap[w.heap.size + 1]? = some (.cells #[.bool false, .int .i64 0, .nilFunc, .nilIface, .int .i64 0, .bool false, .bool a1] 54 (0, 0)) ∧
  wx.heap[w.heap.size + 1 + 1]? = some (.chan 1 #[] false 0 0 false) ∧
  wx.heap[w.heap.size + 1 + 1 + 1]? = some (.cells #[.int .i64 a0, .pointer (some ⟨w.heap.size + 1, 0, none⟩), .nilFunc, .pointer none, .int .i64 (ST s x a4), .int .i32 0, .int .i32 a6, .chan (some (w.heap.size + 1 + 1)), .int .u32 (bi a7), .int .i32 0, .int .u32 0,
    .iface 44 (.pointer (some ⟨w.heap.size, 0, none⟩)), .int .i64 st, .int .i64 0, .chan none, .bool false, .chan none, .int .i32 0, .int .u32 0, .int .i64 0, .chan none] 76 (0, 0)) ∧
  wx.heap.size = w.heap.size + 4 ∧ Below w.heap.size w wx

theorem laid_of (w : World) (n : Nat) (a0 : Int) (a1 : Bool) (x s st idle : Int) (a4 : Bool) (a6 : Int) (a7 : Bool) :
    Laid w (((((w.alloc (.cells #[.int .i64 idle, .slice none 0 0] 47)).alloc (.cells #[.bool false, .int .i64 0, .nilFunc, .nilIface, .int .i64 0, .bool false, .bool a1] 54)).alloc (.chan 1 #[] false 0 0 false)).alloc
      (.cells #[.int .i64 a0, .pointer (some ⟨w.heap.size + 1, 0, none⟩), .nilFunc, .pointer none, .int .i64 (ST s x a4), .int .i32 0, .int .i32 a6, .chan (some (w.heap.size + 1 + 1)), .int .u32 (bi a7), .int .i32 0, .int .u32 0,
    .iface 44 (.pointer (some ⟨w.heap.size, 0, none⟩)), .int .i64 st, .int .i64 0, .chan none, .bool false, .chan none, .int .i32 0, .int .u32 0, .int .i64 0, .chan none] 76)).drewN n) a0 a1 x s st idle a4 a6 a7 := by
  have hn : ∀ (X : World) (o : Obj), (X.alloc o).heap[X.heap.size]? = some o := fun X o => (MapKept.heap_alloc X o).1
  refine ⟨?_, ?_, ?_, ?_, ?_, ?_⟩
  · rw [World.heap_drewN, Below.heap_alloc _ _ _ (by simp <;> omega), Below.heap_alloc _ _ _ (by simp <;> omega), Below.heap_alloc _ _ _ (by simp), hn]
  · rw [World.heap_drewN, Below.heap_alloc _ _ _ (by simp <;> omega), Below.heap_alloc _ _ _ (by simp)]
    have := fun o => hn (w.alloc (.cells #[.int .i64 idle, .slice none 0 0] 47)) o
    simpa using this _
  · rw [World.heap_drewN, Below.heap_alloc _ _ _ (by simp)]
    have := hn ((w.alloc (.cells #[.int .i64 idle, .slice none 0 0] 47)).alloc (.cells #[.bool false, .int .i64 0, .nilFunc, .nilIface, .int .i64 0, .bool false, .bool a1] 54)) (.chan 1 #[] false 0 0 false)
    simpa using this
  · rw [World.heap_drewN]
    have := fun o => hn (((w.alloc (.cells #[.int .i64 idle, .slice none 0 0] 47)).alloc (.cells #[.bool false, .int .i64 0, .nilFunc, .nilIface, .int .i64 0, .bool false, .bool a1] 54)).alloc (.chan 1 #[] false 0 0 false)) o
    simpa using this _
  · simp
  · exact below_drewN (((((Below.refl _ _).alloc (Nat.le_refl _) _).alloc (by simp) _).alloc (by simp <;> omega) _).alloc (by simp <;> omega) _) n

/-- Tune does nothing -/
def noopB (a0 : Int) (a1 : Bool) (a9 : Int) : Bool := decide (a0 < 0) || a1 || decide (a9 ≤ 0) || a9 == a0

theorem len_room (w : World) (c cap s r : Nat) (buf : Array Value) (cl : Bool) (h : w.heap[c]? = some (.chan cap buf cl s r false)) :
    (Builtin.len_ #[32] 3 #[.chan (some c)]).run Yba.prog w = .ok (.int .i64 (buf.size : Nat)) w := by
  have hg : (getObj c).run Yba.prog w = .ok (.chan cap buf cl s r false) w := by simp [getObj, Sem.run, h]
  simp [Builtin.len_, run_underlying Yba.underlying32, hg]
  rfl
end Go.Proofs.Ybulkegwc
