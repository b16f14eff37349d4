import Derived.Test.YbulkehayDoorFit
import Derived.Deep.WholeRow
namespace Go.Proofs.YbulkehayDoor
open Go.RowKit

theorem Ybad.info33 : (Ybad.prog.info? 33).map (fun i => (i.zero, i.size, i.bytes)) = some (some (.agg #[.slice none 0 0, .slice none 0 0]), 2, 48) := by kernel_rfl
theorem Ybad.info3 : (Ybad.prog.info? 3).map (fun i => (i.zero, i.size, i.bytes)) = some (some (.int .i64 0), 1, 8) := by kernel_rfl
theorem make31 (L : Nat) (h : L ≤ 20000) (w : World) :
    (Instr.makeSlice 31 (.int .i64 (L : Int)) (.int .i64 (L : Int))).run Ybad.prog w = .ok (.slice (some ⟨w.heap.size, 0, none⟩) L L) (w.alloc (.cells (madeCells #[.slice none 0 0, .slice none 0 0] (L * 2)) 33)) := by
  obtain ⟨i, hi, hz0, hz1, hz2⟩ := info_parts Ybad.info33
  have := run_make (P := Ybad.prog) w 31 33 i (.agg #[.slice none 0 0, .slice none 0 0]) Ybad.underlying31 hi hz0 .i64 .i64 L L (by omega) (by omega) (by rw [hz2]; omega) (by omega)
  rw [this, hz1]
  simp [Value.cells]
theorem make67 (L : Nat) (h : L ≤ 20000) (w : World) :
    (Instr.makeSlice 67 (.int .i64 (L : Int)) (.int .i64 (L : Int))).run Ybad.prog w = .ok (.slice (some ⟨w.heap.size, 0, none⟩) L L) (w.alloc (.cells (madeCells #[.int .i64 0] L) 3)) := by
  obtain ⟨i, hi, hz0, hz1, hz2⟩ := info_parts Ybad.info3
  have := run_make (P := Ybad.prog) w 67 3 i (.int .i64 0) Ybad.underlying67 hi hz0 .i64 .i64 L L (by omega) (by omega) (by rw [hz2]; omega) (by omega)
  rw [this, hz1]
  simp [Value.cells]

/-- the buckets, up to b -/
def Buckets (wx : World) (g nb k b pc W bc wd : Nat) : Prop :=
  ∃ xs, Row wx g 33 xs ∧ xs.length = nb * 2 ∧ (k < b → xs[k * 2]? = some (.slice (some ⟨pc, 0, none⟩) W W) ∧ xs[k * 2 + 1]? = some (.slice (some ⟨bc, 0, none⟩) wd wd))
theorem Buckets.start (w : World) (nb k pc W bc wd : Nat) : Buckets (w.alloc (.cells (madeCells #[.slice none 0 0, .slice none 0 0] (nb * 2)) 33)) w.heap.size nb k 0 pc W bc wd :=
  ⟨_, Row.new w 33 _, by simp [madeCells], fun h => absurd h (by omega)⟩
theorem Buckets.cells {wx : World} {g nb k b pc W bc wd : Nat} (h : Buckets wx g nb k b pc W bc wd) (i : Nat) (hi : i < nb) :
    ∃ u v, wx.cell? ⟨g, i * 2, none⟩ = some u ∧ wx.cell? ⟨g, i * 2 + 1, none⟩ = some v ∧ wx.frozen? ⟨g, i * 2, none⟩ = false ∧ wx.frozen? ⟨g, i * 2 + 1, none⟩ = false := by
  obtain ⟨xs, h1, h2, h3⟩ := h
  exact ⟨xs[i * 2]'(by omega), xs[i * 2 + 1]'(by omega), h1.cell _ _ (List.getElem?_eq_getElem _), h1.cell _ _ (List.getElem?_eq_getElem _), h1.frozen _, h1.frozen _⟩
theorem Buckets.lt {wx : World} {g nb k b pc W bc wd : Nat} (h : Buckets wx g nb k b pc W bc wd) : g < wx.heap.size := by
  obtain ⟨xs, h1, h2, h3⟩ := h; exact h1.lt
theorem Buckets.alloc {wx : World} {g nb k b pc W bc wd : Nat} (h : Buckets wx g nb k b pc W bc wd) (o : Obj) : Buckets (wx.alloc o) g nb k b pc W bc wd := by
  obtain ⟨xs, h1, h2, h3⟩ := h; exact ⟨xs, h1.alloc o, h2, h3⟩
theorem Buckets.drewN {wx : World} {g nb k b pc W bc wd : Nat} (h : Buckets wx g nb k b pc W bc wd) (q : Nat) : Buckets (wx.drewN q) g nb k b pc W bc wd := by
  obtain ⟨xs, h1, h2, h3⟩ := h; exact ⟨xs, h1.drewN q, h2, h3⟩
theorem Buckets.drew {wx : World} {g nb k b pc W bc wd : Nat} (h : Buckets wx g nb k b pc W bc wd) : Buckets wx.drew g nb k b pc W bc wd := by
  obtain ⟨xs, h1, h2, h3⟩ := h; exact ⟨xs, h1, h2, h3⟩
theorem Buckets.below {wx wy : World} {g nb k b pc W bc wd : Nat} (h : Buckets wx g nb k b pc W bc wd) (hb : Below wx.heap.size wx wy) : Buckets wy g nb k b pc W bc wd := by
  obtain ⟨xs, h1, h2, h3⟩ := h; exact ⟨xs, h1.below hb h1.lt, h2, h3⟩
theorem Buckets.hit {wx : World} {g nb k pc W bc wd : Nat} (h : Buckets wx g nb k k pc W bc wd) (hk : k < nb) :
    Buckets ((wx.setCell ⟨g, k * 2, none⟩ (.slice (some ⟨pc, 0, none⟩) W W)).setCell ⟨g, k * 2 + 1, none⟩ (.slice (some ⟨bc, 0, none⟩) wd wd)) g nb k (k + 1) pc W bc wd := by
  obtain ⟨xs, h1, h2, h3⟩ := h
  refine ⟨_, (h1.setCell _ _).setCell _ _, by simp [h2], fun _ => ⟨?_, ?_⟩⟩
  · rw [List.getElem?_set_ne (by omega), List.getElem?_set_self (by omega)]
  · rw [List.getElem?_set_self (by simp; omega)]
theorem Buckets.miss {wx : World} {g nb k b pc W bc wd : Nat} (h : Buckets wx g nb k b pc W bc wd) (hk : ¬ b = k) (u v : Value) :
    Buckets ((wx.setCell ⟨g, b * 2, none⟩ u).setCell ⟨g, b * 2 + 1, none⟩ v) g nb k (b + 1) pc W bc wd := by
  obtain ⟨xs, h1, h2, h3⟩ := h
  refine ⟨_, (h1.setCell _ _).setCell _ _, by simp [h2], fun hb => ?_⟩
  obtain ⟨e1, e2⟩ := h3 (by omega)
  refine ⟨?_, ?_⟩
  · rw [List.getElem?_set_ne (by omega), List.getElem?_set_ne (by omega)]; exact e1
  · rw [List.getElem?_set_ne (by omega), List.getElem?_set_ne (by omega)]; exact e2
/-- a bucket of no concern: made, in either order -/
theorem Buckets.step {wa wx : World} {g nb k b pc W bc wd : Nat} (h : Buckets wx g nb k b pc W bc wd ∧ Below g wa wx) (hk : ¬ b = k) (hs : g < wx.heap.size) (u v : Value) (o1 o2 : Obj) :
    Buckets ((((wx.setCell ⟨g, b * 2, none⟩ u).setCell ⟨g, b * 2 + 1, none⟩ v).alloc o1).alloc o2).drew g nb k (b + 1) pc W bc wd ∧ Below g wa ((((wx.setCell ⟨g, b * 2, none⟩ u).setCell ⟨g, b * 2 + 1, none⟩ v).alloc o1).alloc o2).drew := by
  have h1 := (h.2.setCell (p := ⟨g, b * 2, none⟩) (Nat.le_refl _) u).setCell (p := ⟨g, b * 2 + 1, none⟩) (Nat.le_refl _) v
  exact ⟨((((h.1.miss hk u v).alloc o1).alloc o2).drew), ((h1.alloc (by simp [World.setCell]; omega) o1).alloc (by simp [World.setCell]; omega) o2).drew⟩

/-- the tally's counts: none in the buckets below, then these -/
def cvals (D L : Nat) (f : Nat → Nat) : List Value := fill L .i32 (fun j => if j < D then 0 else (f (j - D) : Int))
theorem cvals_none (D : Nat) (f : Nat → Nat) : fill D .i32 (fun _ => 0) = cvals D D f := fill_congr (fun _ hj => (if_pos hj).symm)
theorem cvals_cat (D wd : Nat) (f : Nat → Nat) : (fill (D + wd) .i32 (fun _ => 0)).take D ++ fill wd .i32 (fun c => (f c : Int)) ++ (fill (D + wd) .i32 (fun _ => 0)).drop (D + wd) = cvals D (D + wd) f := by
  have e : (fill (D + wd) .i32 (fun _ => 0)).drop (D + wd) = [] := List.drop_eq_nil_of_le (by rw [fill_length]; exact Nat.le_refl _)
  rw [e, List.append_nil]
  apply List.ext_getElem?
  intro j
  unfold cvals
  by_cases h1 : j < D
  · rw [List.getElem?_append_left (by rw [List.length_take, fill_length]; omega), List.getElem?_take_of_lt h1, fill_get _ _ (by omega), fill_get _ _ (by omega), if_pos h1]
  · rw [List.getElem?_append_right (by rw [List.length_take, fill_length]; omega), List.length_take, fill_length, Nat.min_eq_left (by omega)]
    by_cases h2 : j < D + wd
    · rw [fill_get _ _ (by omega), fill_get _ _ h2, if_neg h1]
    · rw [List.getElem?_eq_none (by rw [fill_length]; omega), List.getElem?_eq_none (by rw [fill_length]; omega)]
theorem copy_counts (w : World) (D wd n mc : Nat) (B : Nat → Bool) (hr : Row w mc 21 (crow wd B n)) (ty : TypeId) (c c' : Nat) :
    (Builtin.copy_ #[28, 29] ty #[.slice (some ⟨w.heap.size, D, none⟩) (D + wd - D) c, .slice (some ⟨mc, 0, none⟩) wd c']).run Ybad.prog (w.alloc (.cells (madeCells #[.int .i32 0] (D + wd)) 21)) = .ok (goInt wd) (w.alloc (.cells (cvals D (D + wd) (cntRow B n)).toArray 21)) := by
  have hl : (crow wd B n).length = wd := fill_length _ _ _
  have h := run_copy_row (P := Ybad.prog) (w.alloc (.cells (madeCells #[.int .i32 0] (D + wd)) 21)) 28 29 ty 21 w.heap.size D (D + wd - D) c ⟨mc, 0, none⟩ wd c' (madeCells #[.int .i32 0] (D + wd)) 21 (crow wd B n) Ybad.underlying28 (by kernel_rfl) (heap_alloc_new _ _) (by rw [hl, Nat.add_sub_cancel_left]; exact (Nat.min_self wd).symm)
    (fun j v hj => by
      have := (hr.alloc (.cells (madeCells #[.int .i32 0] (D + wd)) 21)).cell j v hj
      rw [Go.WideShapes.add_plain, Nat.zero_add]; exact this)
    (by rw [hl, size_madeCells]; exact Nat.le_refl _) (ints_one _ _)
  rw [h, hl, World.setRow_alloc_new, made_fill]
  show Result.ok _ (w.alloc (.cells ((fill (D + wd) .i32 (fun _ => 0)).take D ++ fill wd .i32 (fun c => (cntRow B n c : Int)) ++ (fill (D + wd) .i32 (fun _ => 0)).drop (D + wd)).toArray 21)) = _
  rw [cvals_cat]
end Go.Proofs.YbulkehayDoor
