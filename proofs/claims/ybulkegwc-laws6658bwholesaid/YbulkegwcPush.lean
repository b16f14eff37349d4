import Derived.Test.YbulkegwcRing
import Derived.Lib.Builder
namespace Go.Proofs.Ybulkegwc
open Go.RowKit

theorem cells_at {w : World} {g : Nat} {c : Array Value} {t : TypeId} (h : w.heap[g]? = some (.cells c t (0, 0))) (j : Nat) : w.cell? ⟨g, j, none⟩ = c[j]? := by
  simp [World.cell?, h]
theorem frozen_at {w : World} {g : Nat} {c : Array Value} {t : TypeId} (h : w.heap[g]? = some (.cells c t (0, 0))) (j : Nat) : w.frozen? ⟨g, j, none⟩ = false := by
  simp [World.frozen?, h]

set_option maxRecDepth 100000 in
set_option maxHeartbeats 400000 in
theorem push_any (r it L h s : Nat) (xs : List Value) (p : Option Addr) (w : World) (hne : ¬ r = it) (hr : w.heap[r]? = some (.cells #[.slice (some ⟨it, 0, none⟩) L L, .int .i64 h, .int .i64 s] 29 (0, 0)))
    (hrow : Row w it xs) (hx : xs.length = L) (hp : AllPtr xs) (hh : h < L) (hs : s < L) (hL : L ≤ 1024) :
    Calls Yba.prog 7 #[.pointer (some ⟨r, 0, none⟩), .pointer p] w fun e w' => e = .returned (.tuple #[]) ∧ ∃ n, w' = ((w.setCell ⟨it, (h + s) % L, none⟩ (.pointer p)).setCell ⟨r, 2, none⟩ (.int .i64 (s + 1))).drewN n := by
  have c0 : w.cell? ⟨r, 0, none⟩ = some (.slice (some ⟨it, 0, none⟩) L L) := by rw [cells_at hr]; rfl
  have c1 : w.cell? ⟨r, 1, none⟩ = some (.int .i64 h) := by rw [cells_at hr]; rfl
  have c2 : w.cell? ⟨r, 2, none⟩ = some (.int .i64 s) := by rw [cells_at hr]; rfl
  have f2 := frozen_at hr 2
  have hm : (h + s) % L < L := Nat.mod_lt _ (by omega)
  have hmi : ((h : Int) + (s : Int)) % (L : Int) = (((h + s) % L : Nat) : Int) := by rw [Int.natCast_emod, Int.natCast_add]
  obtain ⟨q, hq⟩ := hp ((h + s) % L) (by omega)
  have c3 := hrow.cell _ _ hq
  have f3 := hrow.frozen ((h + s) % L)
  have hslot := fun n => slot_any r (some ⟨it, 0, none⟩) L L (h : Int) (s : Int) (w.drewN n) c0 c1 (by omega) (by omega) (by omega) (by omega) (by omega) (by omega)
  have hne2 : ¬ ((s : Int) = (L : Int)) := by omega
  rw [hmi] at hslot
  generalize (h + s) % L = m at *
  have HS := hslot
  clear hmi hq hr hrow hp hslot
  go_enter Yba.func7, Yba.ntmps7
  go_wp2
  go_quiet (fail)
  go_wp2
  go_region_with (go_at_call 21; refine (HS _).mono ?_; rintro e w' ⟨rfl, n, rfl⟩)
  all_goals
    go_wp2
    go_end0
    exact ⟨rfl, nq + 1 + n, rfl⟩

/-- what a push leaves -/
theorem push_law (r it L h s : Nat) (xs : List Value) (p : Option Addr) (w : World) (hne : ¬ r = it) (hr : w.heap[r]? = some (.cells #[.slice (some ⟨it, 0, none⟩) L L, .int .i64 h, .int .i64 s] 29 (0, 0)))
    (hrow : Row w it xs) (hx : xs.length = L) (hp : AllPtr xs) (hh : h < L) (hs : s < L) (hL : L ≤ 1024) :
    Calls Yba.prog 7 #[.pointer (some ⟨r, 0, none⟩), .pointer p] w fun e w' => e = .returned (.tuple #[]) ∧ Row w' it (xs.set ((h + s) % L) (.pointer p)) ∧
      w'.heap[r]? = some (.cells #[.slice (some ⟨it, 0, none⟩) L L, .int .i64 h, .int .i64 (s + 1)] 29 (0, 0)) ∧ (∀ k, k ≠ it → k ≠ r → w'.heap[k]? = w.heap[k]?) ∧ w'.heap.size = w.heap.size ∧ w'.os = w.os ∧ w'.tape = w.tape ∧ w'.output = w.output := by
  refine (push_any r it L h s xs p w hne hr hrow hx hp hh hs hL).mono ?_
  rintro e w' ⟨rfl, n, rfl⟩
  refine ⟨rfl, ?_, ?_, ?_, ?_, rfl, rfl, rfl⟩
  · exact (((hrow.setCell _ _).setOther _ _ (by simp; omega))).drewN _
  · have h1 : (w.setCell ⟨it, (h + s) % L, none⟩ (.pointer p)).heap[r]? = w.heap[r]? := Below.heap_setCell _ _ _ _ hne
    rw [World.heap_drewN]
    simp only [World.setCell, Array.getElem?_modify] at h1 ⊢
    simp [hr, Ne.symm hne]
  · intro k h1 h2
    rw [World.heap_drewN, Below.heap_setCell _ _ _ _ (by simpa using h2), Below.heap_setCell _ _ _ _ (by simpa using h1)]
  · simp [World.setCell]

set_option maxRecDepth 100000 in
set_option maxHeartbeats 400000 in
theorem isZero_any (w : World) : Calls Yba.prog 8 #[.agg #[.int .u64 0, .int .i64 0, .pointer none]] w fun e w' => e = .returned (.bool true) ∧ w' = w.alloc (.cells #[.int .u64 0, .int .i64 0, .pointer none] 36) := by
  go_enter Yba.func8, Yba.ntmps8
  go_wp2
  go_ret
  exact ⟨rfl, rfl⟩

theorem neq_same (p : Option Addr) (w : World) : (binOp .neq 30 (.pointer p) (.pointer p)).run Yba.prog w = .ok (.bool false) w := by
  cases p with
  | none => exact run_neq_pointer_nil w 30 none (by kernel_rfl)
  | some a =>
    obtain ⟨j, hj⟩ : ∃ j, Yba.prog.info? 38 = some j := Option.isSome_iff_exists.1 (by kernel_rfl)
    exact Lib.run_neq_ptr_same w a Yba.underlying30 hj

end Go.Proofs.Ybulkegwc
