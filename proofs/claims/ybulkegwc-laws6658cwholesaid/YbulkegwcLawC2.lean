import Derived.Test.YbulkegwcLawC1
namespace Go.Proofs.Ybulkegwc
open Go.RowKit

theorem cellOf {w : World} {g : Nat} {c : Array Value} {t : TypeId} (h : w.heap[g]? = some (.cells c t (0, 0))) (j : Nat) : w.cell? ⟨g, j, none⟩ = c[j]? := by simp [World.cell?, h]
theorem frozenOf {w : World} {g : Nat} {c : Array Value} {t : TypeId} (h : w.heap[g]? = some (.cells c t (0, 0))) (j : Nat) : w.frozen? ⟨g, j, none⟩ = false := by simp [World.frozen?, h]

/-- what stands behind Tune: the pool's cells, the channel's length, the store's two cells -/
def After (w w3 : World) (cap state : Int) (wt : Int) (of : Bool) (st room n : Int) (logv : Value) : Prop :=
  w3.cell? ⟨w.heap.size + 1 + 1 + 1, 0, none⟩ = some (.int .i64 cap) ∧ w3.cell? ⟨w.heap.size + 1 + 1 + 1, 4, none⟩ = some (.int .i64 state) ∧
  w3.cell? ⟨w.heap.size + 1 + 1 + 1, 6, none⟩ = some (.int .i32 wt) ∧ w3.cell? ⟨w.heap.size + 1 + 1 + 1, 7, none⟩ = some (.chan (some (w.heap.size + 1 + 1))) ∧
  w3.cell? ⟨w.heap.size + 1 + 1 + 1, 8, none⟩ = some (.int .u32 (bi of)) ∧ w3.cell? ⟨w.heap.size + 1 + 1 + 1, 9, none⟩ = some (.int .i32 0) ∧
  w3.cell? ⟨w.heap.size + 1 + 1 + 1, 12, none⟩ = some (.int .i64 st) ∧ w3.frozen? ⟨w.heap.size + 1 + 1 + 1, 9, none⟩ = false ∧
  (Builtin.len_ #[32] 3 #[.chan (some (w.heap.size + 1 + 1))]).run Yba.prog w3 = .ok (.int .i64 room) w3 ∧
  w3.cell? ⟨w.heap.size, 0, none⟩ = some (.int .i64 n) ∧ w3.cell? ⟨w.heap.size, 1, none⟩ = some logv ∧ Below w.heap.size w w3

theorem after_mk {w W : World} {cap x s st idle : Int} {a4 : Bool} {a6 : Int} {of : Bool} {buf : Array Value} {sn : Nat}
    (k1 : W.heap[w.heap.size]? = some (.cells #[.int .i64 idle, .slice none 0 0] 47 (0, 0))) (k3 : W.heap[w.heap.size + 1 + 1]? = some (.chan 1 buf false sn 0 false))
    (k4 : W.heap[w.heap.size + 1 + 1 + 1]? = some (.cells #[.int .i64 cap, .pointer (some ⟨w.heap.size + 1, 0, none⟩), .nilFunc, .pointer none, .int .i64 (ST s x a4), .int .i32 0, .int .i32 a6, .chan (some (w.heap.size + 1 + 1)), .int .u32 (bi of), .int .i32 0, .int .u32 0,
    .iface 44 (.pointer (some ⟨w.heap.size, 0, none⟩)), .int .i64 st, .int .i64 0, .chan none, .bool false, .chan none, .int .i32 0, .int .u32 0, .int .i64 0, .chan none] 76 (0, 0))) (hb : Below w.heap.size w W) :
    After w W cap (ST s x a4) a6 of st (buf.size : Nat) idle (.slice none 0 0) :=
  ⟨cellOf k4 0, cellOf k4 4, cellOf k4 6, cellOf k4 7, cellOf k4 8, cellOf k4 9, cellOf k4 12, frozenOf k4 9, len_room W (w.heap.size + 1 + 1) 1 sn 0 buf false k3, cellOf k1 0, cellOf k1 1, hb⟩

section
variable {w wl : World} {a0 : Int} {a1 : Bool} {x s st idle : Int} {a4 : Bool} {a6 : Int} {a7 : Bool}

theorem after_noop (hL : Laid w wl a0 a1 x s st idle a4 a6 a7) : After w wl a0 (ST s x a4) a6 a7 st 0 idle (.slice none 0 0) := by
  obtain ⟨l1, l2, l3, l4, l5, hb⟩ := hL
  exact after_mk l1 l3 l4 hb

theorem after_growA (hL : Laid w wl a0 a1 x s st idle a4 a6 a7) (a9 : Int) : After w (wl.setCell ⟨w.heap.size + 1 + 1 + 1, 0, none⟩ (.int .i64 a9)) a9 (ST s x a4) a6 a7 st 0 idle (.slice none 0 0) := by
  obtain ⟨l1, l2, l3, l4, l5, hb⟩ := hL
  have k4 : (wl.setCell ⟨w.heap.size + 1 + 1 + 1, 0, none⟩ (.int .i64 a9)).heap[w.heap.size + 1 + 1 + 1]? = some (.cells #[.int .i64 a9, .pointer (some ⟨w.heap.size + 1, 0, none⟩), .nilFunc, .pointer none, .int .i64 (ST s x a4), .int .i32 0, .int .i32 a6, .chan (some (w.heap.size + 1 + 1)), .int .u32 (bi a7), .int .i32 0, .int .u32 0,
    .iface 44 (.pointer (some ⟨w.heap.size, 0, none⟩)), .int .i64 st, .int .i64 0, .chan none, .bool false, .chan none, .int .i32 0, .int .u32 0, .int .i64 0, .chan none] 76 (0, 0)) := by
    simp [World.setCell, Array.getElem?_modify, l4]
  have k1 : (wl.setCell ⟨w.heap.size + 1 + 1 + 1, 0, none⟩ (.int .i64 a9)).heap[w.heap.size]? = _ := (Below.heap_setCell _ _ _ _ (by simp; omega)).trans l1
  have k3 : (wl.setCell ⟨w.heap.size + 1 + 1 + 1, 0, none⟩ (.int .i64 a9)).heap[w.heap.size + 1 + 1]? = _ := (Below.heap_setCell _ _ _ _ (by simp)).trans l3
  exact after_mk k1 k3 k4 (hb.setCell (by simp; omega) _)

theorem after_growB (hL : Laid w wl a0 a1 x s st idle a4 a6 a7) (a9 : Int) (n : Nat) :
    After w ((((wl.setCell ⟨w.heap.size + 1 + 1 + 1, 0, none⟩ (.int .i64 a9)).setCell ⟨w.heap.size + 1 + 1 + 1, 8, none⟩ (.int .u32 1)).drewN n).setChan (w.heap.size + 1 + 1) 1 #[.agg #[]] false 1 0 false) a9 (ST s x a4) a6 true st 1 idle (.slice none 0 0) := by
  obtain ⟨l1, l2, l3, l4, l5, hb⟩ := hL
  have sc : ∀ (X : World) (k : Nat), k ≠ w.heap.size + 1 + 1 → (X.setChan (w.heap.size + 1 + 1) 1 #[.agg #[]] false 1 0 false).heap[k]? = X.heap[k]? := by
    intro X k hk
    simp only [World.setChan]; rw [Array.getElem?_setIfInBounds_ne (Ne.symm hk)]
  have k4 : ((((wl.setCell ⟨w.heap.size + 1 + 1 + 1, 0, none⟩ (.int .i64 a9)).setCell ⟨w.heap.size + 1 + 1 + 1, 8, none⟩ (.int .u32 1)).drewN n).setChan (w.heap.size + 1 + 1) 1 #[.agg #[]] false 1 0 false).heap[w.heap.size + 1 + 1 + 1]? = some (.cells #[.int .i64 a9, .pointer (some ⟨w.heap.size + 1, 0, none⟩), .nilFunc, .pointer none, .int .i64 (ST s x a4), .int .i32 0, .int .i32 a6, .chan (some (w.heap.size + 1 + 1)), .int .u32 1, .int .i32 0, .int .u32 0,
    .iface 44 (.pointer (some ⟨w.heap.size, 0, none⟩)), .int .i64 st, .int .i64 0, .chan none, .bool false, .chan none, .int .i32 0, .int .u32 0, .int .i64 0, .chan none] 76 (0, 0)) := by
    rw [sc _ _ (by omega), World.heap_drewN]
    simp [World.setCell, Array.getElem?_modify, l4]
  have k1 : ((((wl.setCell ⟨w.heap.size + 1 + 1 + 1, 0, none⟩ (.int .i64 a9)).setCell ⟨w.heap.size + 1 + 1 + 1, 8, none⟩ (.int .u32 1)).drewN n).setChan (w.heap.size + 1 + 1) 1 #[.agg #[]] false 1 0 false).heap[w.heap.size]? = some (.cells #[.int .i64 idle, .slice none 0 0] 47 (0, 0)) := by
    rw [sc _ _ (by omega), World.heap_drewN, Below.heap_setCell _ _ _ _ (by simp; omega), Below.heap_setCell _ _ _ _ (by simp; omega)]; exact l1
  have k3 : ((((wl.setCell ⟨w.heap.size + 1 + 1 + 1, 0, none⟩ (.int .i64 a9)).setCell ⟨w.heap.size + 1 + 1 + 1, 8, none⟩ (.int .u32 1)).drewN n).setChan (w.heap.size + 1 + 1) 1 #[.agg #[]] false 1 0 false).heap[w.heap.size + 1 + 1]? = some (.chan 1 #[.agg #[]] false 1 0 false) :=
    Conc.heap_setChan _ _ _ _ _ _ _ _ (by simp [World.setCell, l5])
  exact after_mk (of := true) (buf := #[.agg #[]]) k1 k3 k4 (Conc.below_setChan (below_drewN ((hb.setCell (by simp; omega) _).setCell (by simp; omega) _) n) (by omega) _ _ _ _ _ _)

theorem after_shrink (hL : Laid w wl a0 a1 x s st idle a4 a6 a7) {w3 : World} {a9 y : Int} (hS : Shrunk wl w3 (w.heap.size + 1 + 1 + 1) w.heap.size a9 s y st idle a4) :
    ∃ g cap, After w w3 a9 (ST s (ltg s y (st - stp (y - a9) idle) (stp (y - a9) idle)) a4) a6 a7 (st - stp (y - a9) idle) 0 (idle - stp (y - a9) idle) (.slice (some ⟨g, 0, none⟩) 1 cap) ∧ w3.cell? ⟨g, 0, none⟩ = some (.int .i64 (y - a9)) := by
  obtain ⟨l1, l2, l3, l4, l5, hb⟩ := hL
  obtain ⟨r0, r4, r9, r12, ro, rf, ⟨g, cap, g1, g2, g3⟩, rk, rs, r5, r6, r7⟩ := hS
  have k3 : w3.heap[w.heap.size + 1 + 1]? = some (.chan 1 #[] false 0 0 false) := (rk _ (by omega) (by omega) (by omega)).trans l3
  refine ⟨g, cap, ⟨r0, r4, ?_, ?_, ?_, r9, r12, ?_, len_room _ (w.heap.size + 1 + 1) 1 0 0 #[] false k3, ?_, ?_, hb.trans ⟨r5, r6, r7, rs, fun k hk => rk k (by omega) (by omega) (by omega)⟩⟩, g2⟩
  · rw [ro 6 (by omega) (by omega) (by omega) (by omega)]; simp [World.cell?, l4]
  · rw [ro 7 (by omega) (by omega) (by omega) (by omega)]; simp [World.cell?, l4]
  · rw [ro 8 (by omega) (by omega) (by omega) (by omega)]; simp [World.cell?, l4]
  · rw [rf 9]; simp [World.frozen?, l4]
  · simp [World.cell?, g1]
  · simp [World.cell?, g1]
end
end Go.Proofs.Ybulkegwc
