import Derived.Test.YbulkegziFmtCards
import Derived.WalkKit
import Derived.WalkSpells
import Derived.WalkLawsBesides
import Derived.BigQuiet
import Derived.Deep.QuietTactic
import Derived.Stop.CallBack
import Derived.Stop.IfaceNil
namespace Go.Proofs.YbulkegziFmt
open Go.RowKit Go.Extern.Stop Go.Stop Go.Extern

theorem call6 (args : Array Value) (w : World) : (callFunc 6 args).run Ybaf.prog w = ((FmtStop.errorf #[9, 36] #[32] args).run Ybaf.prog w).andThen fun v w' => .ok (.value v) w' :=
  run_callFunc_extern Ybaf.func6 (by kernel_rfl) (by kernel_rfl) (by kernel_rfl) (by kernel_rfl) args w
theorem guardf (name : String) (w : World) : (FmtStop.guard name).run Ybaf.prog w = .ok () w := by kernel_rfl
theorem fmtq (w : World) : (FmtDoors.printed ⟨#[37, 113, 32, 105, 115, 32, 110, 111, 116, 32, 100, 101, 102, 101, 114, 32, 111, 114, 32, 99, 97, 110, 99, 101, 108]⟩ 1).run Ybaf.prog w = .ok [(0, 113, false)] w := by kernel_rfl
def shape9 : List UInt8 := [12, 6, 0, 0, 0, 0, 0, 0, 0, 115, 116, 114, 105, 110, 103]
theorem op9 (name : String) (x : ByteArray) (w : World) : (FmtStop.operand name true 113 false (.iface 9 (.string x))).run Ybaf.prog w = .ok (shape9, FmtStop.pack x.data.toList) w := by kernel_rfl
theorem ptr39 (w : World) : (FmtStop.ptrTo "errors.errorString").run Ybaf.prog w = .ok 39 w := by kernel_rfl
theorem elem39 (w : World) : (elemOf 39).run Ybaf.prog w = .ok 41 w := by kernel_rfl

theorem errorf_q (a : Nat) (x : ByteArray) (w : World) (hc : w.cell? ⟨a, 0, none⟩ = some (.iface 9 (.string x))) :
    ∃ s n, (callFunc 6 #[.string ⟨#[37, 113, 32, 105, 115, 32, 110, 111, 116, 32, 100, 101, 102, 101, 114, 32, 111, 114, 32, 99, 97, 110, 99, 101, 108]⟩, .slice (some ⟨a, 0, none⟩) 1 1]).run Ybaf.prog w =
      .ok (.value (.iface 39 (.pointer (some ⟨w.heap.size, 0, none⟩)))) ((w.alloc (.cells #[.string s] 41)).drewN n) := by
  have hl : (FmtStop.cells (.slice (some ⟨a, 0, none⟩) 1 1)).run Ybaf.prog w = .ok [.iface 9 (.string x)] w := by
    have := run_loadCells_list (P := Ybaf.prog) w ⟨a, 0, none⟩ [.iface 9 (.string x)] (by
      intro j v hj
      match j, hj with
      | 0, hj => simp at hj; subst hj; simpa [Addr.add] using hc)
    simp [FmtStop.cells] at this ⊢
    rw [this]; simp
  rw [call6, FmtStop.errorf_lit]
  have hstr : ∀ k, ∃ s, FmtStop.str k = .string s := fun k => ⟨_, rfl⟩
  have hnv : ∀ (s : ByteArray) (w : World), (newVar 41 (.agg #[.string s])).run Ybaf.prog w = .ok ⟨w.heap.size, 0, none⟩ (w.alloc (.cells #[.string s] 41)) := fun s w => by simp [go_sem]
  simp [guardf, hl, fmtq, FmtStop.readAll, op9, FmtStop.text, ptr39, elem39]
  split
  · obtain ⟨s, hs⟩ := hstr 0
    rw [hs, hnv]
    exact ⟨s, 0, rfl⟩
  · generalize Question.cut _ _ = q
    obtain ⟨s, hs⟩ := hstr q
    rw [hs, hnv]
    exact ⟨s, 1, rfl⟩

set_option maxRecDepth 100000 in
set_option maxHeartbeats 400000 in
theorem Errorf_any (a : Nat) (x : ByteArray) (w : World) (hc : w.cell? ⟨a, 0, none⟩ = some (.iface 9 (.string x))) :
    Calls Ybaf.prog 5 #[.string ⟨#[37, 113, 32, 105, 115, 32, 110, 111, 116, 32, 100, 101, 102, 101, 114, 32, 111, 114, 32, 99, 97, 110, 99, 101, 108]⟩, .slice (some ⟨a, 0, none⟩) 1 1] w fun e w' =>
      e = .returned (.iface 39 (.pointer (some ⟨w.heap.size, 0, none⟩))) ∧ ∃ s n, w' = (w.alloc (.cells #[.string s] 41)).drewN n := by
  obtain ⟨s, n, hs⟩ := errorf_q a x w hc
  go_enter Ybaf.func5, Ybaf.ntmps5
  go_wp2
  go_ret
  exact ⟨rfl, s, n, rfl⟩

set_option maxRecDepth 100000 in
set_option maxHeartbeats 400000 in
theorem read_defer (o : Nat) (u : Value) (c : Int) (w : World) (hc : w.cell? ⟨o, 16, none⟩ = some u) (hf : w.frozen? ⟨o, 16, none⟩ = false) :
    Calls Ybaf.prog 4 #[.pointer (some ⟨o, 0, none⟩), .string ⟨#[100, 101, 102, 101, 114]⟩, .int .i64 c] w fun e w' => e = .returned .nilIface ∧ w' = w.setCell ⟨o, 16, none⟩ (.string ⟨#[]⟩) := by
  go_enter Ybaf.func4, Ybaf.ntmps4
  go_wp2
  go_ret
  exact ⟨rfl, rfl⟩
set_option maxRecDepth 100000 in
set_option maxHeartbeats 400000 in
theorem read_cancel (o : Nat) (u : Value) (c : Int) (w : World) (hc : w.cell? ⟨o, 16, none⟩ = some u) (hf : w.frozen? ⟨o, 16, none⟩ = false) :
    Calls Ybaf.prog 4 #[.pointer (some ⟨o, 0, none⟩), .string ⟨#[99, 97, 110, 99, 101, 108]⟩, .int .i64 c] w fun e w' => e = .returned .nilIface ∧ w' = w.setCell ⟨o, 16, none⟩ (.string ⟨#[99, 97, 110, 99, 101, 108]⟩) := by
  go_enter Ybaf.func4, Ybaf.ntmps4
  go_wp2
  go_ret
  exact ⟨rfl, rfl⟩
set_option maxRecDepth 100000 in
set_option maxHeartbeats 400000 in
theorem read_other (o : Nat) (v : ByteArray) (c : Int) (w : World) (h1 : (v.toList == [100, 101, 102, 101, 114]) = false) (h2 : (v.toList == [99, 97, 110, 99, 101, 108]) = false) :
    Calls Ybaf.prog 4 #[.pointer (some ⟨o, 0, none⟩), .string v, .int .i64 c] w fun e w' => e = .returned (.iface 39 (.pointer (some ⟨w.heap.size + 1, 0, none⟩))) ∧ ∃ s n, w' = ((w.alloc (.cells #[.iface 9 (.string v)] 20)).alloc (.cells #[.string s] 41)).drewN n := by
  go_enter Ybaf.func4, Ybaf.ntmps4
  go_wp2_with fail
  refine (Errorf_any w.heap.size v _ ?_).mono ?_
  · go_simp
  rintro e w' ⟨rfl, s, n, rfl⟩
  go_wp2
  go_ret
  exact ⟨by simp, s, n, rfl⟩
end Go.Proofs.YbulkegziFmt
