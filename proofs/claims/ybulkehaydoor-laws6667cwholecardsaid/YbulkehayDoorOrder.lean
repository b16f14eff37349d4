import Derived.Test.YbulkehayDoorSmall
import Derived.Test.YbulkehayDoorSetBit
import Derived.Laws.EntriesVeiled
import Derived.Deep.DeepCutAuto
import Derived.Deep.CutBlock
namespace Go.Proofs.YbulkehayDoor
open Go.RowKit

/-- the closure's value -/
def tallyFn (ca se ta : Nat) : Value := .func (.func 10) #[] #[.pointer (some ⟨ca, 0, none⟩), .pointer (some ⟨se, 0, none⟩), .pointer (some ⟨ta, 0, none⟩)]

set_option maxRecDepth 100000 in
set_option maxHeartbeats 400000 in
theorem tally_any (ca se ta : Nat) (p s0 : Option Addr) (c : Nat) (w : World) (hc : w.cell? ⟨ca, 0, none⟩ = some (.int .i64 (c : Int))) (hcf : w.frozen? ⟨ca, 0, none⟩ = false) (hs : w.cell? ⟨se, 0, none⟩ = some (.pointer s0)) (hsf : w.frozen? ⟨se, 0, none⟩ = false) (hne : ¬ ca = se) (hc2 : c ≤ 10) :
    Calls Ybad.prog 10 #[.pointer p, .pointer (some ⟨ca, 0, none⟩), .pointer (some ⟨se, 0, none⟩), .pointer (some ⟨ta, 0, none⟩)] w fun e w' => e = .returned (.pointer (some ⟨ta, 0, none⟩)) ∧ w' = (w.setCell ⟨ca, 0, none⟩ (.int .i64 ((c : Int) + 1))).setCell ⟨se, 0, none⟩ (.pointer p) := by
  have hne' : ¬ se = ca := fun h => hne h.symm
  go_enter Ybad.func10, Ybad.ntmps10
  go_wp2
  go_ret
  exact ⟨rfl, rfl⟩

theorem make25 (L : Nat) (h : L ≤ 20000) (w : World) :
    (Instr.makeSlice 25 (.int .i64 (L : Int)) (.int .i64 (L : Int))).run Ybad.prog w = .ok (.slice (some ⟨w.heap.size, 0, none⟩) L L) (w.alloc (.cells (madeCells #[.int .u64 0] L) 26)) := by
  obtain ⟨i, hi, hz0, hz1, hz2⟩ := info_parts Ybad.info26
  have := run_make (P := Ybad.prog) w 25 26 i (.int .u64 0) Ybad.underlying25 hi hz0 .i64 .i64 L L (by omega) (by omega) (by rw [hz2]; omega) (by omega)
  rw [this, hz1]
  simp [Value.cells]
theorem make29 (L : Nat) (h : L ≤ 20000) (w : World) :
    (Instr.makeSlice 29 (.int .i64 (L : Int)) (.int .i64 (L : Int))).run Ybad.prog w = .ok (.slice (some ⟨w.heap.size, 0, none⟩) L L) (w.alloc (.cells (madeCells #[.int .i32 0] L) 21)) := by
  obtain ⟨i, hi, hz0, hz1, hz2⟩ := info_parts Ybad.info21
  have := run_make (P := Ybad.prog) w 29 21 i (.int .i32 0) Ybad.underlying29 hi hz0 .i64 .i64 L L (by omega) (by omega) (by rw [hz2]; omega) (by omega)
  rw [this, hz1]
  simp [Value.cells]
theorem make28 (L : Nat) (h : L ≤ 20000) (w : World) :
    (Instr.makeSlice 28 (.int .i64 (L : Int)) (.int .i64 (L : Int))).run Ybad.prog w = .ok (.slice (some ⟨w.heap.size, 0, none⟩) L L) (w.alloc (.cells (madeCells #[.int .i32 0] L) 21)) := by
  obtain ⟨i, hi, hz0, hz1, hz2⟩ := info_parts Ybad.info21
  have := run_make (P := Ybad.prog) w 28 21 i (.int .i32 0) Ybad.underlying28 hi hz0 .i64 .i64 L L (by omega) (by omega) (by rw [hz2]; omega) (by omega)
  rw [this, hz1]
  simp [Value.cells]

set_option maxRecDepth 100000 in
set_option maxHeartbeats 400000 in
theorem newOrder_any (g n : Nat) (cs : Array Value) (W : Nat) (hn : n ≤ 6200) (hW : W = 1 + (n + 2047) / 2048) (w : World) :
    Calls Ybad.prog 9 #[.slice (some ⟨g, 0, none⟩) n n, .func (.func 10) #[] cs] w fun e w' => e = .returned (.agg #[.slice (some ⟨g, 0, none⟩) n n, .slice none 0 0, .int .i64 (W : Int), .func (.func 10) #[] cs]) ∧ ∃ o, w' = w.alloc o := by
  have h1 : ((n : Int) + 2048 - 1) / 2048 = (((n + 2047) / 2048 : Nat) : Int) := by omega
  have h2 : 1 + (((n + 2047) / 2048 : Nat) : Int) = (W : Int) := by omega
  have h3 : (n + 2047) / 2048 ≤ 4 := by omega
  clear hW
  generalize (n + 2047) / 2048 = m at *
  go_enter Ybad.func9, Ybad.ntmps9
  go_wp2
  refine bodyPost_ret (results_cell_row rfl _ _ w.heap.size 70 _ (0, 0) _ rfl (heap_alloc_new _ _) Ybad.underlying70 rfl (by kernel_rfl)) rfl ?_
  exact ⟨rfl, _, rfl⟩

set_option maxRecDepth 100000 in
set_option maxHeartbeats 400000 in
theorem tallyOf_some (o ca se ta mk W' : Nat) (p s0 : Option Addr) (c : Nat) (w : World) (ho : w.cell? ⟨o, 3, none⟩ = some (tallyFn ca se ta)) (hc : w.cell? ⟨ca, 0, none⟩ = some (.int .i64 (c : Int))) (hcf : w.frozen? ⟨ca, 0, none⟩ = false) (hs : w.cell? ⟨se, 0, none⟩ = some (.pointer s0)) (hsf : w.frozen? ⟨se, 0, none⟩ = false) (hne : ¬ ca = se) (hc2 : c ≤ 10)
    (ht : w.cell? ⟨ta, 0, none⟩ = some (.slice (some ⟨mk, 0, none⟩) W' W')) (hta : ¬ ca = ta) (hta2 : ¬ se = ta) :
    Calls Ybad.prog 15 #[.pointer (some ⟨o, 0, none⟩), .pointer p] w fun e w' => e = .returned (.pointer (some ⟨ta, 0, none⟩)) ∧ w' = (w.setCell ⟨ca, 0, none⟩ (.int .i64 ((c : Int) + 1))).setCell ⟨se, 0, none⟩ (.pointer p) := by
  have hT := tally_any ca se ta p s0 c w hc hcf hs hsf hne hc2
  have hnil := nil25
  have hta' : ¬ ta = ca := fun h => hta h.symm
  have hta2' : ¬ ta = se := fun h => hta2 h.symm
  unfold tallyFn at ho
  clear hc hs hcf hsf
  go_enter Ybad.func15, Ybad.ntmps15
  go_wp2_with (go_at_call 10; refine hT.mono ?_; rintro e w' ⟨rfl, rfl⟩)
  go_ret
  exact ⟨rfl, rfl⟩

set_option maxRecDepth 100000 in
set_option maxHeartbeats 400000 in
theorem tallyOf_nil (o cb n ca se ta W : Nat) (p s0 : Option Addr) (c : Nat) (w : World) (hn : n ≤ 6200) (hW : (n + 63) / 64 = W) (ho : w.cell? ⟨o, 3, none⟩ = some (tallyFn ca se ta)) (ho0 : w.cell? ⟨o, 0, none⟩ = some (.slice (some ⟨cb, 0, none⟩) n n)) (hc : w.cell? ⟨ca, 0, none⟩ = some (.int .i64 (c : Int))) (hcf : w.frozen? ⟨ca, 0, none⟩ = false) (hs : w.cell? ⟨se, 0, none⟩ = some (.pointer s0)) (hsf : w.frozen? ⟨se, 0, none⟩ = false) (hne : ¬ ca = se) (hc2 : c ≤ 10)
    (ht : w.cell? ⟨ta, 0, none⟩ = some (.slice none 0 0)) (htf : w.frozen? ⟨ta, 0, none⟩ = false) (hta : ¬ ca = ta) (hta2 : ¬ se = ta) (hoc : ¬ o = ca) (hos : ¬ o = se) (hlt : ta < w.heap.size) :
    Calls Ybad.prog 15 #[.pointer (some ⟨o, 0, none⟩), .pointer p] w fun e w' => e = .returned (.pointer (some ⟨ta, 0, none⟩)) ∧ w' = (((w.setCell ⟨ca, 0, none⟩ (.int .i64 ((c : Int) + 1))).setCell ⟨se, 0, none⟩ (.pointer p)).setCell ⟨ta, 0, none⟩ (.slice (some ⟨w.heap.size, 0, none⟩) W W)).alloc (.cells (madeCells #[.int .u64 0] W) 26) := by
  have hT := tally_any ca se ta p s0 c w hc hcf hs hsf hne hc2
  have hnil := nil25
  have hta' : ¬ ta = ca := fun h => hta h.symm
  have hta2' : ¬ ta = se := fun h => hta2 h.symm
  have hWi : ((n : Int) + 63) / 64 = (W : Int) := by omega
  have hmk := make25 W (by omega)
  unfold tallyFn at ho
  clear hc hs hcf hsf hW
  go_enter Ybad.func15, Ybad.ntmps15
  go_wp2_with (go_at_call 10; refine hT.mono ?_; rintro e w' ⟨rfl, rfl⟩)
  go_ret
  exact ⟨rfl, rfl⟩

set_option maxRecDepth 100000 in
set_option maxHeartbeats 400000 in
theorem countIn_nil (o ta k W cg L : Nat) (w : World) (hk : k ≤ 2) (hW : W ≤ 5) (hL : L < (k + 1) * W) (ho : w.cell? ⟨o, 2, none⟩ = some (.int .i64 (W : Int))) (ht : w.cell? ⟨ta, 1, none⟩ = some (.slice (some ⟨cg, 0, none⟩) L L)) :
    Calls Ybad.prog 16 #[.pointer (some ⟨o, 0, none⟩), .pointer (some ⟨ta, 0, none⟩), .int .i64 (k : Int)] w fun e w' => e = .returned (.slice none 0 0) ∧ w' = w := by
  have h1 : ((k : Int) + 1) * (W : Int) = (((k + 1) * W : Nat) : Int) := by rw [Int.natCast_mul, Int.natCast_add]; rfl
  have h2 : (k + 1) * W ≤ 15 := Nat.mul_le_mul (show k + 1 ≤ 3 by omega) hW
  generalize (k + 1) * W = E at *
  go_enter Ybad.func16, Ybad.ntmps16
  go_wp2
  go_ret
  exact ⟨rfl, rfl⟩

set_option maxRecDepth 100000 in
set_option maxHeartbeats 400000 in
theorem countIn_some (o ta k W cg : Nat) (w : World) (hk : k ≤ 2) (hW : W ≤ 5) (hW0 : 0 < W) (ho : w.cell? ⟨o, 2, none⟩ = some (.int .i64 (W : Int))) (ht : w.cell? ⟨ta, 1, none⟩ = some (.slice (some ⟨cg, 0, none⟩) ((k + 1) * W) ((k + 1) * W))) :
    Calls Ybad.prog 16 #[.pointer (some ⟨o, 0, none⟩), .pointer (some ⟨ta, 0, none⟩), .int .i64 (k : Int)] w fun e w' => e = .returned (.slice (some ⟨cg, k * W, none⟩) W W) ∧ ∃ q, w' = w.drewN q := by
  have h1 : ((k : Int) + 1) * (W : Int) = (((k + 1) * W : Nat) : Int) := by rw [Int.natCast_mul, Int.natCast_add]; rfl
  have h2 : (k + 1) * W ≤ 15 := Nat.mul_le_mul (show k + 1 ≤ 3 by omega) hW
  have h3 : (k + 1) * W = k * W + W := Nat.succ_mul k W
  generalize (k + 1) * W = E at *
  generalize k * W = D at *
  have h4 : (E : Int) - (W : Int) = (D : Int) := by omega
  go_enter Ybad.func16, Ybad.ntmps16
  go_wp2
  go_quiet (fail)
  go_wp2
  go_ret
  refine ⟨?_, _, rfl⟩
  show Ending.returned (.slice (some ⟨cg, D, none⟩) (D + W - D) (D + W - D)) = _
  rw [Nat.add_sub_cancel_left]
end Go.Proofs.YbulkehayDoor
